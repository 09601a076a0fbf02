import JvmDerived
import JvmDerived.Pilot.@@N@@Statement
import JvmDerived.Pilot.@@N@@Code
set_option linter.unusedVariables false
set_option linter.unusedSimpArgs false
@@BLOCK:NumsL.lean.txt@@
namespace Jvm.Pilot.@@N@@
open Jvm Jvm.ClassFile Sem Op Lib Jvm.Free Jvm.Stand Jvm.LawKit Jvm.RoadKit Bundle Jvm.Pilot.@@N@@.Jvm.D

/-! the walk's own small kit: from the frame g over the state T the body comes to its end, with Φ -/
def own_Go (p : Program) (e : Env) (below : List Frame) (T : State) (g : JFrame) (Φ : Outcome → State → Prop) : Prop :=
  ∃ s₂ o, Steps p.tables e below (T.setTop g) s₂ ∧ s₂.status = .running ∧ Ended s₂ below o ∧ Φ o s₂
def own_Fin (s : State) (Q : Option Value → Heap → List Loc → Prop) (k j : Nat) (o : Outcome) (U' : State) : Prop :=
  ∃ v L, o = .returned v ∧ Q v U'.heap L ∧ FrameEnd s o U' L k j
theorem own_by {p : Program} {e : Env} {below : List Frame} {T T' : State} {g g' : JFrame} {Φ : Outcome → State → Prop}
    (h : ∀ t, Steps p.tables e below (T'.setTop g') t → Steps p.tables e below (T.setTop g) t) (k : own_Go p e below T' g' Φ) : own_Go p e below T g Φ := by
  obtain ⟨s₂, o, h1, h2⟩ := k
  exact ⟨s₂, o, h _ h1, h2⟩
theorem own_start {p : Program} {e : Env} {below : List Frame} {s T : State} {g g' : JFrame} {Q : Option Value → Heap → List Loc → Prop} {k j : Nat} (hg : g = g')
    (h : own_Go p e below T g' (own_Fin s Q k j)) : ∃ s₂ o, Steps p.tables e below (T.setTop g) s₂ ∧ s₂.status = .running ∧ Ended s₂ below o ∧ ∃ v L, o = .returned v ∧ Q v s₂.heap L ∧ FrameEnd s o s₂ L k j := by
  subst hg
  exact h
section OwnRet
variable {p : Program} {l : Launch} {e : Env} {R : Room} {s : State} {m : MethodId} {args : Array Value} {below : List Frame} {meth : Method} {c : Code} {T : State} {locs : List Loc} {cells slots : Nat} {Q : Option Value → Heap → List Loc → Prop} {k j pc : Nat} {Ls : Array Slot} {rest : List Value}
theorem own_retN {t : FieldType} (ht : t = .boolean ∨ t = .byte ∨ t = .char ∨ t = .short) (X : Stand p l e R s m args below meth c T locs cells slots) (hx : p.tables.exec = Jvm.exec) (hret : meth.sig.returnType = some t) (hlk : meth.locks = false) {z : Int32} (hd : decode c.code pc = .ok (.ireturn, 1))
    (hz : nar t z = z) (hk : cells ≤ k) (hj : slots ≤ j) (q : Q (some (.int z)) T.heap locs) : own_Go p e below T (mkF m pc Ls (.int z :: rest)) (own_Fin s Q k j) := by
  obtain ⟨fs, hr, hrun, hended, hW, hsame⟩ := X.leave (v := some (.int z)) (fun h => by rw [hret] at h; cases h)
  exact ⟨_, _, retN X hx hret ht hd (by rw [hz]; exact hr), hrun, hended, _, _, rfl, q, ⟨_, rfl⟩, hW, hsame.mono hk hj⟩
theorem own_retZ (X : Stand p l e R s m args below meth c T locs cells slots) (hx : p.tables.exec = Jvm.exec) (hret : meth.sig.returnType = some .boolean) (hlk : meth.locks = false) {z : Int32} (hd : decode c.code pc = .ok (.ireturn, 1))
    (hz : nar .boolean z = z) (hk : cells ≤ k) (hj : slots ≤ j) (q : Q (some (.int z)) T.heap locs) : own_Go p e below T (mkF m pc Ls (.int z :: rest)) (own_Fin s Q k j) := own_retN (Or.inl rfl) X hx hret hlk hd hz hk hj q
theorem own_retI (X : Stand p l e R s m args below meth c T locs cells slots) (hx : p.tables.exec = Jvm.exec) (hret : meth.sig.returnType = some .int) (hlk : meth.locks = false) {z : Int32} (hd : decode c.code pc = .ok (.ireturn, 1))
    (hk : cells ≤ k) (hj : slots ≤ j) (q : Q (some (.int z)) T.heap locs) : own_Go p e below T (mkF m pc Ls (.int z :: rest)) (own_Fin s Q k j) := by
  obtain ⟨fs, hr, hrun, hended, hW, hsame⟩ := X.leave (v := some (.int z)) (fun h => by rw [hret] at h; cases h)
  exact ⟨_, _, retOut X hx hret rfl (Or.inl ⟨rfl, Or.inl rfl, z, rfl⟩) hd hr, hrun, hended, _, _, rfl, q, ⟨_, rfl⟩, hW, hsame.mono hk hj⟩
theorem own_retJ (X : Stand p l e R s m args below meth c T locs cells slots) (hx : p.tables.exec = Jvm.exec) (hret : meth.sig.returnType = some .long) (hlk : meth.locks = false) {z : Int64} (hd : decode c.code pc = .ok (.lreturn, 1))
    (hk : cells ≤ k) (hj : slots ≤ j) (q : Q (some (.long z)) T.heap locs) : own_Go p e below T (mkF m pc Ls (.long z :: rest)) (own_Fin s Q k j) := by
  obtain ⟨fs, hr, hrun, hended, hW, hsame⟩ := X.leave (v := some (.long z)) (fun h => by rw [hret] at h; cases h)
  exact ⟨_, _, retOut X hx hret rfl (Or.inr (Or.inl ⟨rfl, rfl, z, rfl⟩)) hd hr, hrun, hended, _, _, rfl, q, ⟨_, rfl⟩, hW, hsame.mono hk hj⟩
theorem own_retA {t : FieldType} (X : Stand p l e R s m args below meth c T locs cells slots) (hx : p.tables.exec = Jvm.exec) (hret : meth.sig.returnType = some t) (hlk : meth.locks = false) {z : Value} (hd : decode c.code pc = .ok (.areturn, 1))
    (ht : t.isReference = true) (hz : z.isRef = true) (hn : narrow t z = z) (hk : cells ≤ k) (hj : slots ≤ j) (q : Q (some z) T.heap locs) : own_Go p e below T (mkF m pc Ls (z :: rest)) (own_Fin s Q k j) := by
  obtain ⟨fs, hr, hrun, hended, hW, hsame⟩ := X.leave (v := some z) (fun h => by rw [hret] at h; cases h)
  exact ⟨_, _, retOut X hx hret hn (Or.inr (Or.inr (Or.inr (Or.inr ⟨rfl, ht, hz⟩)))) hd hr, hrun, hended, _, _, rfl, q, ⟨_, rfl⟩, hW, hsame.mono hk hj⟩
theorem own_retV (X : Stand p l e R s m args below meth c T locs cells slots) (hx : p.tables.exec = Jvm.exec) (hret : meth.sig.returnType = none) (hlk : meth.locks = false) (hd : decode c.code pc = .ok (.return_, 1))
    (hk : cells ≤ k) (hj : slots ≤ j) (q : Q none T.heap locs) : own_Go p e below T (mkF m pc Ls []) (own_Fin s Q k j) := by
  obtain ⟨fs, hr, hrun, hended, hW, hsame⟩ := X.leave (v := none) (fun _ => rfl)
  exact ⟨_, _, X.returnOut hx hret hd hr, hrun, hended, _, _, rfl, q, ⟨_, rfl⟩, hW, hsame.mono hk hj⟩
theorem own_lrem_eq (x y : Int64) : x - x / y * y = x % y := Int64.toInt_inj.mp (by rw [Jvm.Kit.i64_rem, Int64.toInt_mod])
theorem own_lrem {g : JFrame} {target : State} (X : Stand p l e R s m args below meth c T locs cells slots) (hx : p.tables.exec = Jvm.exec) (hg : g.method = m) {x y : Int64} {rest : List Value} (hd : decode c.code g.pc = .ok (.lrem, 1)) (hs : g.stack = .long y :: .long x :: rest) (hy : y ≠ 0)
    (hr : Steps p.tables e below (T.setTop { g with pc := g.pc + 1, stack := .long (x % y) :: rest }) target) : Steps p.tables e below (T.setTop g) target :=
  XS.lrem X.here hx hg hd hs hy (by rw [own_lrem_eq x y]; exact hr)
end OwnRet
/-! an array: its length, and what each place holds -/
abbrev own_At (j : Int32) (k : Nat) : Prop := ¬ j < 0 ∧ j.toNatClampNeg = k
def own_upd (f : Nat → Value) (k : Nat) (v : Value) : Nat → Value := fun i => if i = k then v else f i
theorem own_upd_hit {f : Nat → Value} {k i : Nat} {v : Value} (h : i = k) : own_upd f k v i = v := if_pos h
theorem own_upd_miss {f : Nat → Value} {k i : Nat} {v : Value} (h : ¬ i = k) : own_upd f k v i = f i := if_neg h
def own_Av (Z : State) (h : Heap) (a : Addr) (ty : FieldType) (n : Nat) (f : Nat → Value) : Prop := ∃ c : Cell, Arr Z h a c ty ∧ c.slots.size = n ∧ ∀ i, i < n → c.slots[i]? = some (f i)
section OwnArr
variable {Z : State} {h h' : Heap} {a b : Addr} {ty : FieldType} {n k sl : Nat} {f : Nat → Value} {v : Value} {ws : List Addr}
theorem own_Av.ext (F : own_Av Z h a ty n f) (E : Ext h h') : own_Av Z h' a ty n f := by obtain ⟨c, A, r⟩ := F; exact ⟨c, A.ext E, r⟩
theorem own_Av.other (F : own_Av Z h b ty n f) (W : Wr h h' a sl v) (q : b ≠ a) : own_Av Z h' b ty n f := by obtain ⟨c, A, r⟩ := F; exact ⟨c, A.other W q, r⟩
theorem own_Av.keep (F : own_Av Z h a ty n f) (K : Keep h h' ws) (q : a ∉ ws) : own_Av Z h' a ty n f := by obtain ⟨c, A, r⟩ := F; exact ⟨c, ⟨K.2.1 a c A.1 q, A.2⟩, r⟩
theorem own_Av.lt (F : own_Av Z h a ty n f) : a < h.size := by obtain ⟨c, A, -⟩ := F; exact A.lt
theorem own_Av.ofnew {z : Int32} {kc : ClassId} {d : Value} (A : Arr Z h a (newA kc ty z) ty) (hn : z.toNatClampNeg = n) (hd : defaultValue ty = d) : own_Av Z h a ty n (fun _ => d) := by
  subst hn hd
  exact ⟨_, A, sz_new _ _ _, fun i hi => by simp [newA, hi]⟩
theorem own_Av.set (F : own_Av Z h a ty n f) (W : Wr h h' a k v) : own_Av Z h' a ty n (own_upd f k v) := by
  obtain ⟨c, A, S, H⟩ := F
  refine ⟨_, A.same W, by rw [sz_set]; exact S, fun i hi => ?_⟩
  by_cases q : i = k
  · subst q
    rw [own_upd_hit rfl]
    simp [Cell.setSlot, S, hi]
  · rw [own_upd_miss q, ← H i hi]
    exact Array.getElem?_setIfInBounds_ne fun u => q u.symm
theorem own_Av.cong {g : Nat → Value} {n' : Nat} (F : own_Av Z h a ty n f) (hn : n = n') (q : ∀ i, i < n → f i = g i) : own_Av Z h a ty n' g := by
  subst hn
  obtain ⟨c, A, S, H⟩ := F
  exact ⟨c, A, S, fun i hi => by rw [← q i hi]; exact H i hi⟩
theorem own_in {j : Int32} (hj : own_At j k) (hk : k < n) {c : Cell} (S : c.slots.size = n) : ¬ (j < 0 ∨ c.slots.size ≤ j.toNatClampNeg) := by
  intro q
  rcases q with q | q
  · exact hj.1 q
  · rw [hj.2, S] at q; omega
variable {p : Program} {l : Launch} {e : Env} {R : Room} {s : State} {m : MethodId} {args : Array Value} {below : List Frame} {meth : Method} {c : Code} {T : State} {locs : List Loc} {cells slots : Nat}
theorem own_ldI (X : Stand p l e R s m args below meth c T locs cells slots) (hx : p.tables.exec = Jvm.exec) (hZ : Z.Warmed39 s.vm) (eT : T.heap = h) (F : own_Av Z h a .int n f) {j : Int32} (hj : own_At j k) (hk : k < n) (hv : f k = v)
    {g : JFrame} (hg : g.method = m) {rest : List Value} (hs : g.stack = .int j :: .ref a :: rest) (hd : decode c.code g.pc = .ok (.iaload, 1)) (t : State)
    (hr : Steps p.tables e below (T.setTop { g with pc := g.pc + 1, stack := v :: rest }) t) : Steps p.tables e below (T.setTop g) t := by
  obtain ⟨cl, A, S, H⟩ := F
  exact X.iaload hx (by rw [eT]; exact A.1) (State.isArrayOf_alike hZ.alike A.2.1) A.2.2 (own_in hj hk S) (by rw [hj.2, H k hk, hv]) hg hs hd t hr
theorem own_ldJ (X : Stand p l e R s m args below meth c T locs cells slots) (hx : p.tables.exec = Jvm.exec) (hZ : Z.Warmed39 s.vm) (eT : T.heap = h) (F : own_Av Z h a .long n f) {j : Int32} (hj : own_At j k) (hk : k < n) (hv : f k = v)
    {g : JFrame} (hg : g.method = m) {rest : List Value} (hs : g.stack = .int j :: .ref a :: rest) (hd : decode c.code g.pc = .ok (.laload, 1)) (t : State)
    (hr : Steps p.tables e below (T.setTop { g with pc := g.pc + 1, stack := v :: rest }) t) : Steps p.tables e below (T.setTop g) t := by
  obtain ⟨cl, A, S, H⟩ := F
  exact X.laload hx (by rw [eT]; exact A.1) (State.isArrayOf_alike hZ.alike A.2.1) A.2.2 (own_in hj hk S) (by rw [hj.2, H k hk, hv]) hg hs hd t hr
theorem own_ldS (X : Stand p l e R s m args below meth c T locs cells slots) (hx : p.tables.exec = Jvm.exec) (hZ : Z.Warmed39 s.vm) (eT : T.heap = h) (F : own_Av Z h a .short n f) {j : Int32} (hj : own_At j k) (hk : k < n) (hv : f k = v)
    {g : JFrame} (hg : g.method = m) {rest : List Value} (hs : g.stack = .int j :: .ref a :: rest) (hd : decode c.code g.pc = .ok (.saload, 1)) (t : State)
    (hr : Steps p.tables e below (T.setTop { g with pc := g.pc + 1, stack := v :: rest }) t) : Steps p.tables e below (T.setTop g) t := by
  obtain ⟨cl, A, S, H⟩ := F
  exact X.saload hx (by rw [eT]; exact A.1) (State.isArrayOf_alike hZ.alike A.2.1) A.2.2 (own_in hj hk S) (by rw [hj.2, H k hk, hv]) hg hs hd t hr
theorem own_ldC (X : Stand p l e R s m args below meth c T locs cells slots) (hx : p.tables.exec = Jvm.exec) (hZ : Z.Warmed39 s.vm) (eT : T.heap = h) (F : own_Av Z h a .char n f) {j : Int32} (hj : own_At j k) (hk : k < n) (hv : f k = v)
    {g : JFrame} (hg : g.method = m) {rest : List Value} (hs : g.stack = .int j :: .ref a :: rest) (hd : decode c.code g.pc = .ok (.caload, 1)) (t : State)
    (hr : Steps p.tables e below (T.setTop { g with pc := g.pc + 1, stack := v :: rest }) t) : Steps p.tables e below (T.setTop g) t := by
  obtain ⟨cl, A, S, H⟩ := F
  exact X.caload hx (by rw [eT]; exact A.1) (State.isArrayOf_alike hZ.alike A.2.1) A.2.2 (own_in hj hk S) (by rw [hj.2, H k hk, hv]) hg hs hd t hr
theorem own_ldB (X : Stand p l e R s m args below meth c T locs cells slots) (hx : p.tables.exec = Jvm.exec) (hZ : Z.Warmed39 s.vm) (eT : T.heap = h) (F : own_Av Z h a .byte n f) {j : Int32} (hj : own_At j k) (hk : k < n) (hv : f k = v)
    {g : JFrame} (hg : g.method = m) {rest : List Value} (hs : g.stack = .int j :: .ref a :: rest) (hd : decode c.code g.pc = .ok (.baload, 1)) (t : State)
    (hr : Steps p.tables e below (T.setTop { g with pc := g.pc + 1, stack := v :: rest }) t) : Steps p.tables e below (T.setTop g) t := by
  obtain ⟨cl, A, S, H⟩ := F
  exact X.baloadBytes hx (by rw [eT]; exact A.1) (State.isArrayOf_alike hZ.alike A.2.1) A.2.2 (own_in hj hk S) (by rw [hj.2, H k hk, hv]) hg hs hd t hr
theorem own_ldZ (X : Stand p l e R s m args below meth c T locs cells slots) (hx : p.tables.exec = Jvm.exec) (hZ : Z.Warmed39 s.vm) (eT : T.heap = h) (F : own_Av Z h a .boolean n f) {j : Int32} (hj : own_At j k) (hk : k < n) (hv : f k = v)
    {g : JFrame} (hg : g.method = m) {rest : List Value} (hs : g.stack = .int j :: .ref a :: rest) (hd : decode c.code g.pc = .ok (.baload, 1)) (t : State)
    (hr : Steps p.tables e below (T.setTop { g with pc := g.pc + 1, stack := v :: rest }) t) : Steps p.tables e below (T.setTop g) t := by
  obtain ⟨cl, A, S, H⟩ := F
  exact X.baloadBooleans hx (by rw [eT]; exact A.1) (State.isArrayOf_alike hZ.alike A.2.1) A.2.2 (own_in hj hk S) (by rw [hj.2, H k hk, hv]) hg hs hd t hr
theorem own_len (X : Stand p l e R s m args below meth c T locs cells slots) (hx : p.tables.exec = Jvm.exec) (hZ : Z.Warmed39 s.vm) (eT : T.heap = h) (F : own_Av Z h a ty n f) {z : Int32} (hz : n.toInt32 = z)
    {g : JFrame} (hg : g.method = m) {rest : List Value} (hs : g.stack = .ref a :: rest) (hd : decode c.code g.pc = .ok (.arraylength, 1)) (t : State)
    (hr : Steps p.tables e below (T.setTop { g with pc := g.pc + 1, stack := .int z :: rest }) t) : Steps p.tables e below (T.setTop g) t := by
  obtain ⟨cl, A, S, H⟩ := F
  exact X.arraylength hx (by rw [eT]; exact A.1) (State.isArrayOf_alike hZ.alike A.2.1) hg hs hd t (by rw [S, hz]; exact hr)
theorem own_stI (X : Stand p l e R s m args below meth c T locs cells slots) (hx : p.tables.exec = Jvm.exec) (hZ : Z.Warmed39 s.vm) (eT : T.heap = h) (F : own_Av Z h a .int n f) {j x : Int32} (hj : own_At j k) (hk : k < n)
    {g : JFrame} (hg : g.method = m) {rest : List Value} (hs : g.stack = .int x :: .int j :: .ref a :: rest) (hd : decode c.code g.pc = .ok (.iastore, 1)) :
    ∃ T' h', Stand p l e R s m args below meth c T' (locs ++ [⟨a, k⟩]) cells slots ∧ T'.heap = h' ∧ Wr h h' a k (.int x) ∧ own_Av Z h' a .int n (own_upd f k (.int x)) ∧ ∀ target, Steps p.tables e below (T'.setTop { g with pc := g.pc + 1, stack := rest }) target → Steps p.tables e below (T.setTop g) target := by
  obtain ⟨cl, A, S, H⟩ := id F
  obtain ⟨T', h', X', e', W', st⟩ := stI X hx hZ eT A (own_in hj hk S) hg hs hd
  rw [hj.2] at X' W'
  exact ⟨T', h', X', e', W', F.set W', st⟩
theorem own_stJ (X : Stand p l e R s m args below meth c T locs cells slots) (hx : p.tables.exec = Jvm.exec) (hZ : Z.Warmed39 s.vm) (eT : T.heap = h) (F : own_Av Z h a .long n f) {j : Int32} {x : Int64} (hj : own_At j k) (hk : k < n)
    {g : JFrame} (hg : g.method = m) {rest : List Value} (hs : g.stack = .long x :: .int j :: .ref a :: rest) (hd : decode c.code g.pc = .ok (.lastore, 1)) :
    ∃ T' h', Stand p l e R s m args below meth c T' (locs ++ [⟨a, k⟩]) cells slots ∧ T'.heap = h' ∧ Wr h h' a k (.long x) ∧ own_Av Z h' a .long n (own_upd f k (.long x)) ∧ ∀ target, Steps p.tables e below (T'.setTop { g with pc := g.pc + 1, stack := rest }) target → Steps p.tables e below (T.setTop g) target := by
  obtain ⟨cl, A, S, H⟩ := id F
  obtain ⟨T', h', X', e', W', st⟩ := stJ X hx hZ eT A (own_in hj hk S) hg hs hd
  rw [hj.2] at X' W'
  exact ⟨T', h', X', e', W', F.set W', st⟩
theorem own_stB (X : Stand p l e R s m args below meth c T locs cells slots) (hx : p.tables.exec = Jvm.exec) (hZ : Z.Warmed39 s.vm) (eT : T.heap = h) (F : own_Av Z h a .byte n f) {j x : Int32} (hj : own_At j k) (hk : k < n)
    {g : JFrame} (hg : g.method = m) {rest : List Value} (hs : g.stack = .int x :: .int j :: .ref a :: rest) (hd : decode c.code g.pc = .ok (.bastore, 1)) :
    ∃ T' h', Stand p l e R s m args below meth c T' (locs ++ [⟨a, k⟩]) cells slots ∧ T'.heap = h' ∧ Wr h h' a k (.int x.toInt8.toInt32) ∧ own_Av Z h' a .byte n (own_upd f k (.int x.toInt8.toInt32)) ∧ ∀ target, Steps p.tables e below (T'.setTop { g with pc := g.pc + 1, stack := rest }) target → Steps p.tables e below (T.setTop g) target := by
  obtain ⟨cl, A, S, H⟩ := id F
  obtain ⟨T', h', X', e', W', st⟩ := stB X hx hZ eT A (own_in hj hk S) hg hs hd
  rw [hj.2] at X' W'
  exact ⟨T', h', X', e', W', F.set W', st⟩
theorem own_stZ (X : Stand p l e R s m args below meth c T locs cells slots) (hx : p.tables.exec = Jvm.exec) (hZ : Z.Warmed39 s.vm) (eT : T.heap = h) (F : own_Av Z h a .boolean n f) {j x : Int32} (hj : own_At j k) (hk : k < n)
    {g : JFrame} (hg : g.method = m) {rest : List Value} (hs : g.stack = .int x :: .int j :: .ref a :: rest) (hd : decode c.code g.pc = .ok (.bastore, 1)) :
    ∃ T' h', Stand p l e R s m args below meth c T' (locs ++ [⟨a, k⟩]) cells slots ∧ T'.heap = h' ∧ Wr h h' a k (.int (x &&& 1)) ∧ own_Av Z h' a .boolean n (own_upd f k (.int (x &&& 1))) ∧ ∀ target, Steps p.tables e below (T'.setTop { g with pc := g.pc + 1, stack := rest }) target → Steps p.tables e below (T.setTop g) target := by
  obtain ⟨cl, A, S, H⟩ := id F
  obtain ⟨T', h', X', e', W', st⟩ := stZ X hx hZ eT A (own_in hj hk S) hg hs hd
  rw [hj.2] at X' W'
  exact ⟨T', h', X', e', W', F.set W', st⟩
theorem own_stC (X : Stand p l e R s m args below meth c T locs cells slots) (hx : p.tables.exec = Jvm.exec) (hZ : Z.Warmed39 s.vm) (eT : T.heap = h) (F : own_Av Z h a .char n f) {j x : Int32} (hj : own_At j k) (hk : k < n)
    {g : JFrame} (hg : g.method = m) {rest : List Value} (hs : g.stack = .int x :: .int j :: .ref a :: rest) (hd : decode c.code g.pc = .ok (.castore, 1)) :
    ∃ T' h', Stand p l e R s m args below meth c T' (locs ++ [⟨a, k⟩]) cells slots ∧ T'.heap = h' ∧ Wr h h' a k (.int (nar .char x)) ∧ own_Av Z h' a .char n (own_upd f k (.int (nar .char x))) ∧ ∀ target, Steps p.tables e below (T'.setTop { g with pc := g.pc + 1, stack := rest }) target → Steps p.tables e below (T.setTop g) target := by
  obtain ⟨cl, A, S, H⟩ := id F
  obtain ⟨T', h', X', e', W', st⟩ := stC X hx hZ eT A (own_in hj hk S) hg hs hd
  rw [hj.2] at X' W'
  exact ⟨T', h', X', e', W', F.set W', st⟩
theorem own_stS (X : Stand p l e R s m args below meth c T locs cells slots) (hx : p.tables.exec = Jvm.exec) (hZ : Z.Warmed39 s.vm) (eT : T.heap = h) (F : own_Av Z h a .short n f) {j x : Int32} (hj : own_At j k) (hk : k < n)
    {g : JFrame} (hg : g.method = m) {rest : List Value} (hs : g.stack = .int x :: .int j :: .ref a :: rest) (hd : decode c.code g.pc = .ok (.sastore, 1)) :
    ∃ T' h', Stand p l e R s m args below meth c T' (locs ++ [⟨a, k⟩]) cells slots ∧ T'.heap = h' ∧ Wr h h' a k (.int (nar .short x)) ∧ own_Av Z h' a .short n (own_upd f k (.int (nar .short x))) ∧ ∀ target, Steps p.tables e below (T'.setTop { g with pc := g.pc + 1, stack := rest }) target → Steps p.tables e below (T.setTop g) target := by
  obtain ⟨cl, A, S, H⟩ := id F
  obtain ⟨T', h', X', e', W', st⟩ := stS X hx hZ eT A (own_in hj hk S) hg hs hd
  rw [hj.2] at X' W'
  exact ⟨T', h', X', e', W', F.set W', st⟩
end OwnArr
theorem own_selP {Z s : State} {a0 args : Array Value} {y : MethodName} {n : Nat} (hZ : Z.Warmed39 s.vm) (wi : (Cond.instantiable y.cls n).before a0 Z = true) (wp : (Cond.privateMethod y).before a0 Z = true) (wm : (Cond.instanceMethod y).before a0 Z = true)
    (hy : y.cls ≠ "java/lang/invoke/MethodHandle" ∧ y.cls ≠ "java/lang/invoke/VarHandle") : (Cond.selects y.cls y y).before args s = true := by
  have w : (Cond.instantiable y.cls n).before args s = true := mvT hZ wi
  obtain ⟨c, k, h1, h2, -, h4, -⟩ := Cond.instantiable_spec w
  exact Jvm.Stand.selects_self_of_private h1 h2 (Bool.or_eq_false_iff.mp h4).1 (Cond.privateMethod_at (mvP hZ wp (args := args))) (mvT hZ wm) hy
theorem own_narZ {x : Int32} (h : x &&& 1 = x) : narrow .boolean (.int x) = .int x := by
  show Value.int (x &&& 1) = _
  rw [h]
theorem own_fitZ {x : Int32} (h : x &&& 1 = x) : fits .boolean (.int x) = true := by
  have q := fits_nar_bool x
  rw [show nar .boolean x = x from h] at q
  exact q
theorem own_mono {p : Program} {e : Env} {below : List Frame} {s T : State} {g : JFrame} {Q Q' : Option Value → Heap → List Loc → Prop} {k j : Nat} (h : ∀ v h L, Q v h L → Q' v h L) (G : own_Go p e below T g (own_Fin s Q k j)) : own_Go p e below T g (own_Fin s Q' k j) := by
  obtain ⟨s₂, o, h1, h2, h3, v, L, h4, h5, h6⟩ := G
  exact ⟨s₂, o, h1, h2, h3, v, L, h4, h _ _ _ h5, h6⟩
theorem own_ofs (i : Nat) : Int32.ofNat i + (1 : Int32) = Int32.ofNat (i + 1) := (Int32.ofNat_add i 1).symm
theorem own_toI {i : Nat} (h : i < 2147483648) : (Int32.ofNat i).toInt = i := Int32.toInt_ofNat_small h
theorem own_ix {i : Nat} (h : i < 2147483648) : own_At (Int32.ofNat i) i := by
  have e := own_toI h
  refine ⟨?_, ?_⟩
  · rw [Int32.lt_iff_toInt_lt, e, show (0 : Int32).toInt = 0 from by decide]; omega
  · simp only [Int32.toNatClampNeg, e]; omega
theorem own_oflt {i n : Nat} (hi : i < 2147483648) (hn : n < 2147483648) : Int32.ofNat i < Int32.ofNat n ↔ i < n := by
  rw [Int32.lt_iff_toInt_lt, own_toI hi, own_toI hn]; omega
theorem own_ofeq {i n : Nat} (hi : i < 2147483648) (hn : n < 2147483648) : Int32.ofNat i = Int32.ofNat n ↔ i = n := by
  rw [← Int32.toInt_inj, own_toI hi, own_toI hn]; omega
def own_fl (F : Nat → Int32) (i : Nat) (g : Nat → Value) (j : Nat) : Value := if j < i then .int (F j) else g j
theorem own_fl_up (F : Nat → Int32) (i : Nat) (g : Nat → Value) : ∀ j, own_upd (own_fl F i g) i (.int (F i)) j = own_fl F (i + 1) g j := fun j => by
  unfold own_fl
  by_cases q : j = i
  · subst q; rw [own_upd_hit rfl, if_pos (by omega)]
  · rw [own_upd_miss q]
    by_cases q2 : j < i
    · rw [if_pos q2, if_pos (by omega)]
    · rw [if_neg q2, if_neg (by omega)]
theorem own_fl0 (F : Nat → Int32) (g : Nat → Value) : ∀ j, g j = own_fl F 0 g j := fun j => by unfold own_fl; rw [if_neg (by omega)]
theorem own_fl_in {F : Nat → Int32} {i j : Nat} {g : Nat → Value} (h : j < i) : own_fl F i g j = .int (F j) := if_pos h
theorem own_fl_out {F : Nat → Int32} {i j : Nat} {g : Nat → Value} (h : ¬ j < i) : own_fl F i g j = g j := if_neg h

/-! single steps over own_Go -/
theorem own_s_iadd {p : Program} {e : Env} {below : List Frame} {T : State} {m : MethodId} {c : Code} {Φ : Outcome → State → Prop} {pc : Nat} {L : Array Slot} {S : List Value} (h : At T m c below) (hx : p.tables.exec = Jvm.exec) {x y : Int32} (hd : decode c.code pc = .ok (.iadd, 1)) (G : own_Go p e below T (mkF m (pc + 1) L (.int (x + y) :: S)) Φ) : own_Go p e below T (mkF m pc L (.int y :: .int x :: S)) Φ := own_by (fun t k => XS.iadd h hx rfl hd rfl k) G
theorem own_s_isub {p : Program} {e : Env} {below : List Frame} {T : State} {m : MethodId} {c : Code} {Φ : Outcome → State → Prop} {pc : Nat} {L : Array Slot} {S : List Value} (h : At T m c below) (hx : p.tables.exec = Jvm.exec) {x y : Int32} (hd : decode c.code pc = .ok (.isub, 1)) (G : own_Go p e below T (mkF m (pc + 1) L (.int (x - y) :: S)) Φ) : own_Go p e below T (mkF m pc L (.int y :: .int x :: S)) Φ := own_by (fun t k => XS.isub h hx rfl hd rfl k) G
theorem own_s_imul {p : Program} {e : Env} {below : List Frame} {T : State} {m : MethodId} {c : Code} {Φ : Outcome → State → Prop} {pc : Nat} {L : Array Slot} {S : List Value} (h : At T m c below) (hx : p.tables.exec = Jvm.exec) {x y : Int32} (hd : decode c.code pc = .ok (.imul, 1)) (G : own_Go p e below T (mkF m (pc + 1) L (.int (x * y) :: S)) Φ) : own_Go p e below T (mkF m pc L (.int y :: .int x :: S)) Φ := own_by (fun t k => XS.imul h hx rfl hd rfl k) G
theorem own_s_iand {p : Program} {e : Env} {below : List Frame} {T : State} {m : MethodId} {c : Code} {Φ : Outcome → State → Prop} {pc : Nat} {L : Array Slot} {S : List Value} (h : At T m c below) (hx : p.tables.exec = Jvm.exec) {x y : Int32} (hd : decode c.code pc = .ok (.iand, 1)) (G : own_Go p e below T (mkF m (pc + 1) L (.int (x &&& y) :: S)) Φ) : own_Go p e below T (mkF m pc L (.int y :: .int x :: S)) Φ := own_by (fun t k => XS.iand h hx rfl hd rfl k) G
theorem own_s_ior {p : Program} {e : Env} {below : List Frame} {T : State} {m : MethodId} {c : Code} {Φ : Outcome → State → Prop} {pc : Nat} {L : Array Slot} {S : List Value} (h : At T m c below) (hx : p.tables.exec = Jvm.exec) {x y : Int32} (hd : decode c.code pc = .ok (.ior, 1)) (G : own_Go p e below T (mkF m (pc + 1) L (.int (x ||| y) :: S)) Φ) : own_Go p e below T (mkF m pc L (.int y :: .int x :: S)) Φ := own_by (fun t k => XS.ior h hx rfl hd rfl k) G
theorem own_s_ixor {p : Program} {e : Env} {below : List Frame} {T : State} {m : MethodId} {c : Code} {Φ : Outcome → State → Prop} {pc : Nat} {L : Array Slot} {S : List Value} (h : At T m c below) (hx : p.tables.exec = Jvm.exec) {x y : Int32} (hd : decode c.code pc = .ok (.ixor, 1)) (G : own_Go p e below T (mkF m (pc + 1) L (.int (x ^^^ y) :: S)) Φ) : own_Go p e below T (mkF m pc L (.int y :: .int x :: S)) Φ := own_by (fun t k => XS.ixor h hx rfl hd rfl k) G
theorem own_s_ladd {p : Program} {e : Env} {below : List Frame} {T : State} {m : MethodId} {c : Code} {Φ : Outcome → State → Prop} {pc : Nat} {L : Array Slot} {S : List Value} (h : At T m c below) (hx : p.tables.exec = Jvm.exec) {x y : Int64} (hd : decode c.code pc = .ok (.ladd, 1)) (G : own_Go p e below T (mkF m (pc + 1) L (.long (x + y) :: S)) Φ) : own_Go p e below T (mkF m pc L (.long y :: .long x :: S)) Φ := own_by (fun t k => XS.ladd h hx rfl hd rfl k) G
theorem own_s_lsub {p : Program} {e : Env} {below : List Frame} {T : State} {m : MethodId} {c : Code} {Φ : Outcome → State → Prop} {pc : Nat} {L : Array Slot} {S : List Value} (h : At T m c below) (hx : p.tables.exec = Jvm.exec) {x y : Int64} (hd : decode c.code pc = .ok (.lsub, 1)) (G : own_Go p e below T (mkF m (pc + 1) L (.long (x - y) :: S)) Φ) : own_Go p e below T (mkF m pc L (.long y :: .long x :: S)) Φ := own_by (fun t k => XS.lsub h hx rfl hd rfl k) G
theorem own_s_lmul {p : Program} {e : Env} {below : List Frame} {T : State} {m : MethodId} {c : Code} {Φ : Outcome → State → Prop} {pc : Nat} {L : Array Slot} {S : List Value} (h : At T m c below) (hx : p.tables.exec = Jvm.exec) {x y : Int64} (hd : decode c.code pc = .ok (.lmul, 1)) (G : own_Go p e below T (mkF m (pc + 1) L (.long (x * y) :: S)) Φ) : own_Go p e below T (mkF m pc L (.long y :: .long x :: S)) Φ := own_by (fun t k => XS.lmul h hx rfl hd rfl k) G
theorem own_s_land {p : Program} {e : Env} {below : List Frame} {T : State} {m : MethodId} {c : Code} {Φ : Outcome → State → Prop} {pc : Nat} {L : Array Slot} {S : List Value} (h : At T m c below) (hx : p.tables.exec = Jvm.exec) {x y : Int64} (hd : decode c.code pc = .ok (.land, 1)) (G : own_Go p e below T (mkF m (pc + 1) L (.long (x &&& y) :: S)) Φ) : own_Go p e below T (mkF m pc L (.long y :: .long x :: S)) Φ := own_by (fun t k => XS.land h hx rfl hd rfl k) G
theorem own_s_lor {p : Program} {e : Env} {below : List Frame} {T : State} {m : MethodId} {c : Code} {Φ : Outcome → State → Prop} {pc : Nat} {L : Array Slot} {S : List Value} (h : At T m c below) (hx : p.tables.exec = Jvm.exec) {x y : Int64} (hd : decode c.code pc = .ok (.lor, 1)) (G : own_Go p e below T (mkF m (pc + 1) L (.long (x ||| y) :: S)) Φ) : own_Go p e below T (mkF m pc L (.long y :: .long x :: S)) Φ := own_by (fun t k => XS.lor h hx rfl hd rfl k) G
theorem own_s_lxor {p : Program} {e : Env} {below : List Frame} {T : State} {m : MethodId} {c : Code} {Φ : Outcome → State → Prop} {pc : Nat} {L : Array Slot} {S : List Value} (h : At T m c below) (hx : p.tables.exec = Jvm.exec) {x y : Int64} (hd : decode c.code pc = .ok (.lxor, 1)) (G : own_Go p e below T (mkF m (pc + 1) L (.long (x ^^^ y) :: S)) Φ) : own_Go p e below T (mkF m pc L (.long y :: .long x :: S)) Φ := own_by (fun t k => XS.lxor h hx rfl hd rfl k) G
theorem own_s_ishl {p : Program} {e : Env} {below : List Frame} {T : State} {m : MethodId} {c : Code} {Φ : Outcome → State → Prop} {pc : Nat} {L : Array Slot} {S : List Value} (h : At T m c below) (hx : p.tables.exec = Jvm.exec) {x y : Int32} (hd : decode c.code pc = .ok (.ishl, 1)) (G : own_Go p e below T (mkF m (pc + 1) L (.int (x <<< (y &&& 31)) :: S)) Φ) : own_Go p e below T (mkF m pc L (.int y :: .int x :: S)) Φ := own_by (fun t k => XS.ishl h hx rfl hd rfl k) G
theorem own_s_ishr {p : Program} {e : Env} {below : List Frame} {T : State} {m : MethodId} {c : Code} {Φ : Outcome → State → Prop} {pc : Nat} {L : Array Slot} {S : List Value} (h : At T m c below) (hx : p.tables.exec = Jvm.exec) {x y : Int32} (hd : decode c.code pc = .ok (.ishr, 1)) (G : own_Go p e below T (mkF m (pc + 1) L (.int (x >>> (y &&& 31)) :: S)) Φ) : own_Go p e below T (mkF m pc L (.int y :: .int x :: S)) Φ := own_by (fun t k => XS.ishr h hx rfl hd rfl k) G
theorem own_s_iushr {p : Program} {e : Env} {below : List Frame} {T : State} {m : MethodId} {c : Code} {Φ : Outcome → State → Prop} {pc : Nat} {L : Array Slot} {S : List Value} (h : At T m c below) (hx : p.tables.exec = Jvm.exec) {x y : Int32} (hd : decode c.code pc = .ok (.iushr, 1)) (G : own_Go p e below T (mkF m (pc + 1) L (.int ((x.toUInt32 >>> (y &&& 31).toUInt32).toInt32) :: S)) Φ) : own_Go p e below T (mkF m pc L (.int y :: .int x :: S)) Φ := own_by (fun t k => XS.iushr h hx rfl hd rfl k) G
theorem own_s_lshl {p : Program} {e : Env} {below : List Frame} {T : State} {m : MethodId} {c : Code} {Φ : Outcome → State → Prop} {pc : Nat} {L : Array Slot} {S : List Value} (h : At T m c below) (hx : p.tables.exec = Jvm.exec) {x : Int64} {y : Int32} (hd : decode c.code pc = .ok (.lshl, 1)) (G : own_Go p e below T (mkF m (pc + 1) L (.long (x <<< (y &&& 0x3f).toInt64) :: S)) Φ) : own_Go p e below T (mkF m pc L (.int y :: .long x :: S)) Φ := own_by (fun t k => XS.lshl h hx rfl hd rfl k) G
theorem own_s_lshr {p : Program} {e : Env} {below : List Frame} {T : State} {m : MethodId} {c : Code} {Φ : Outcome → State → Prop} {pc : Nat} {L : Array Slot} {S : List Value} (h : At T m c below) (hx : p.tables.exec = Jvm.exec) {x : Int64} {y : Int32} (hd : decode c.code pc = .ok (.lshr, 1)) (G : own_Go p e below T (mkF m (pc + 1) L (.long (x >>> (y &&& 0x3f).toInt64) :: S)) Φ) : own_Go p e below T (mkF m pc L (.int y :: .long x :: S)) Φ := own_by (fun t k => XS.lshr h hx rfl hd rfl k) G
theorem own_s_lushr {p : Program} {e : Env} {below : List Frame} {T : State} {m : MethodId} {c : Code} {Φ : Outcome → State → Prop} {pc : Nat} {L : Array Slot} {S : List Value} (h : At T m c below) (hx : p.tables.exec = Jvm.exec) {x : Int64} {y : Int32} (hd : decode c.code pc = .ok (.lushr, 1)) (G : own_Go p e below T (mkF m (pc + 1) L (.long ((x.toUInt64 >>> (y &&& 0x3f).toInt64.toUInt64).toInt64) :: S)) Φ) : own_Go p e below T (mkF m pc L (.int y :: .long x :: S)) Φ := own_by (fun t k => XS.lushr h hx rfl hd rfl k) G
theorem own_s_ineg {p : Program} {e : Env} {below : List Frame} {T : State} {m : MethodId} {c : Code} {Φ : Outcome → State → Prop} {pc : Nat} {L : Array Slot} {S : List Value} (h : At T m c below) (hx : p.tables.exec = Jvm.exec) {x : Int32} (hd : decode c.code pc = .ok (.ineg, 1)) (G : own_Go p e below T (mkF m (pc + 1) L (.int (-x) :: S)) Φ) : own_Go p e below T (mkF m pc L (.int x :: S)) Φ := own_by (fun t k => XS.ineg h hx rfl hd rfl k) G
theorem own_s_lneg {p : Program} {e : Env} {below : List Frame} {T : State} {m : MethodId} {c : Code} {Φ : Outcome → State → Prop} {pc : Nat} {L : Array Slot} {S : List Value} (h : At T m c below) (hx : p.tables.exec = Jvm.exec) {x : Int64} (hd : decode c.code pc = .ok (.lneg, 1)) (G : own_Go p e below T (mkF m (pc + 1) L (.long (-x) :: S)) Φ) : own_Go p e below T (mkF m pc L (.long x :: S)) Φ := own_by (fun t k => XS.lneg h hx rfl hd rfl k) G
theorem own_s_i2l {p : Program} {e : Env} {below : List Frame} {T : State} {m : MethodId} {c : Code} {Φ : Outcome → State → Prop} {pc : Nat} {L : Array Slot} {S : List Value} (h : At T m c below) (hx : p.tables.exec = Jvm.exec) {x : Int32} (hd : decode c.code pc = .ok (.i2l, 1)) (G : own_Go p e below T (mkF m (pc + 1) L (.long (x.toInt64) :: S)) Φ) : own_Go p e below T (mkF m pc L (.int x :: S)) Φ := own_by (fun t k => XS.i2l h hx rfl hd rfl k) G
theorem own_s_l2i {p : Program} {e : Env} {below : List Frame} {T : State} {m : MethodId} {c : Code} {Φ : Outcome → State → Prop} {pc : Nat} {L : Array Slot} {S : List Value} (h : At T m c below) (hx : p.tables.exec = Jvm.exec) {x : Int64} (hd : decode c.code pc = .ok (.l2i, 1)) (G : own_Go p e below T (mkF m (pc + 1) L (.int (x.toInt32) :: S)) Φ) : own_Go p e below T (mkF m pc L (.long x :: S)) Φ := own_by (fun t k => XS.l2i h hx rfl hd rfl k) G
theorem own_s_i2b {p : Program} {e : Env} {below : List Frame} {T : State} {m : MethodId} {c : Code} {Φ : Outcome → State → Prop} {pc : Nat} {L : Array Slot} {S : List Value} (h : At T m c below) (hx : p.tables.exec = Jvm.exec) {x : Int32} (hd : decode c.code pc = .ok (.i2b, 1)) (G : own_Go p e below T (mkF m (pc + 1) L (.int (x.toInt8.toInt32) :: S)) Φ) : own_Go p e below T (mkF m pc L (.int x :: S)) Φ := own_by (fun t k => XS.i2b h hx rfl hd rfl k) G
theorem own_s_i2s {p : Program} {e : Env} {below : List Frame} {T : State} {m : MethodId} {c : Code} {Φ : Outcome → State → Prop} {pc : Nat} {L : Array Slot} {S : List Value} (h : At T m c below) (hx : p.tables.exec = Jvm.exec) {x : Int32} (hd : decode c.code pc = .ok (.i2s, 1)) (G : own_Go p e below T (mkF m (pc + 1) L (.int (x.toInt16.toInt32) :: S)) Φ) : own_Go p e below T (mkF m pc L (.int x :: S)) Φ := own_by (fun t k => XS.i2s h hx rfl hd rfl k) G
theorem own_s_i2c {p : Program} {e : Env} {below : List Frame} {T : State} {m : MethodId} {c : Code} {Φ : Outcome → State → Prop} {pc : Nat} {L : Array Slot} {S : List Value} (h : At T m c below) (hx : p.tables.exec = Jvm.exec) {x : Int32} (hd : decode c.code pc = .ok (.i2c, 1)) (G : own_Go p e below T (mkF m (pc + 1) L (.int (x.toUInt32.toUInt16.toUInt32.toInt32) :: S)) Φ) : own_Go p e below T (mkF m pc L (.int x :: S)) Φ := own_by (fun t k => XS.i2c h hx rfl hd rfl k) G
theorem own_s_iloadN {p : Program} {e : Env} {below : List Frame} {T : State} {m : MethodId} {c : Code} {Φ : Outcome → State → Prop} {pc : Nat} {L : Array Slot} {S : List Value} (h : At T m c below) (hx : p.tables.exec = Jvm.exec) {i : Fin 4} {v : Int32} (hd : decode c.code pc = .ok (.iload_n i, 1)) (hl : L[i.val]? = some (.val (.int v))) (G : own_Go p e below T (mkF m (pc + 1) L (.int v :: S)) Φ) : own_Go p e below T (mkF m pc L S) Φ := own_by (fun t k => XS.iloadN h hx rfl hd hl k) G
theorem own_s_iload {p : Program} {e : Env} {below : List Frame} {T : State} {m : MethodId} {c : Code} {Φ : Outcome → State → Prop} {pc : Nat} {L : Array Slot} {S : List Value} (h : At T m c below) (hx : p.tables.exec = Jvm.exec) {i : Nat} {v : Int32} (hd : decode c.code pc = .ok (.iload i, 2)) (hl : L[i]? = some (.val (.int v))) (G : own_Go p e below T (mkF m (pc + 2) L (.int v :: S)) Φ) : own_Go p e below T (mkF m pc L S) Φ := own_by (fun t k => XS.iload h hx rfl hd hl k) G
theorem own_s_lloadN {p : Program} {e : Env} {below : List Frame} {T : State} {m : MethodId} {c : Code} {Φ : Outcome → State → Prop} {pc : Nat} {L : Array Slot} {S : List Value} (h : At T m c below) (hx : p.tables.exec = Jvm.exec) {i : Fin 4} {v : Int64} (hd : decode c.code pc = .ok (.lload_n i, 1)) (hl : L[i.val]? = some (.val (.long v))) (G : own_Go p e below T (mkF m (pc + 1) L (.long v :: S)) Φ) : own_Go p e below T (mkF m pc L S) Φ := own_by (fun t k => XS.lloadN h hx rfl hd hl k) G
theorem own_s_lload {p : Program} {e : Env} {below : List Frame} {T : State} {m : MethodId} {c : Code} {Φ : Outcome → State → Prop} {pc : Nat} {L : Array Slot} {S : List Value} (h : At T m c below) (hx : p.tables.exec = Jvm.exec) {i : Nat} {v : Int64} (hd : decode c.code pc = .ok (.lload i, 2)) (hl : L[i]? = some (.val (.long v))) (G : own_Go p e below T (mkF m (pc + 2) L (.long v :: S)) Φ) : own_Go p e below T (mkF m pc L S) Φ := own_by (fun t k => XS.lload h hx rfl hd hl k) G
theorem own_s_aloadN {p : Program} {e : Env} {below : List Frame} {T : State} {m : MethodId} {c : Code} {Φ : Outcome → State → Prop} {pc : Nat} {L : Array Slot} {S : List Value} (h : At T m c below) (hx : p.tables.exec = Jvm.exec) {i : Fin 4} {v : Value} (hd : decode c.code pc = .ok (.aload_n i, 1)) (hl : L[i.val]? = some (.val v)) (hv : v.isRef = true) (G : own_Go p e below T (mkF m (pc + 1) L (v :: S)) Φ) : own_Go p e below T (mkF m pc L S) Φ := own_by (fun t k => XS.aloadN h hx rfl hd hl hv k) G
theorem own_s_aload {p : Program} {e : Env} {below : List Frame} {T : State} {m : MethodId} {c : Code} {Φ : Outcome → State → Prop} {pc : Nat} {L : Array Slot} {S : List Value} (h : At T m c below) (hx : p.tables.exec = Jvm.exec) {i : Nat} {v : Value} (hd : decode c.code pc = .ok (.aload i, 2)) (hl : L[i]? = some (.val v)) (hv : v.isRef = true) (G : own_Go p e below T (mkF m (pc + 2) L (v :: S)) Φ) : own_Go p e below T (mkF m pc L S) Φ := own_by (fun t k => XS.aload h hx rfl hd hl hv k) G
theorem own_s_istoreN {p : Program} {e : Env} {below : List Frame} {T : State} {m : MethodId} {c : Code} {Φ : Outcome → State → Prop} {pc : Nat} {L : Array Slot} {S : List Value} (h : At T m c below) (hx : p.tables.exec = Jvm.exec) {i : Fin 4} {v : Int32} (L' : Array Slot) (hd : decode c.code pc = .ok (.istore_n i, 1)) (hl : storeLocals L i.val (.int v) = some L') (G : own_Go p e below T (mkF m (pc + 1) L' S) Φ) : own_Go p e below T (mkF m pc L (.int v :: S)) Φ := own_by (fun t k => XS.istoreN h hx rfl hd rfl hl k) G
theorem own_s_istore {p : Program} {e : Env} {below : List Frame} {T : State} {m : MethodId} {c : Code} {Φ : Outcome → State → Prop} {pc : Nat} {L : Array Slot} {S : List Value} (h : At T m c below) (hx : p.tables.exec = Jvm.exec) {i : Nat} {v : Int32} (L' : Array Slot) (hd : decode c.code pc = .ok (.istore i, 2)) (hl : storeLocals L i (.int v) = some L') (G : own_Go p e below T (mkF m (pc + 2) L' S) Φ) : own_Go p e below T (mkF m pc L (.int v :: S)) Φ := own_by (fun t k => XS.istore h hx rfl hd rfl hl k) G
theorem own_s_lstoreN {p : Program} {e : Env} {below : List Frame} {T : State} {m : MethodId} {c : Code} {Φ : Outcome → State → Prop} {pc : Nat} {L : Array Slot} {S : List Value} (h : At T m c below) (hx : p.tables.exec = Jvm.exec) {i : Fin 4} {v : Int64} (L' : Array Slot) (hd : decode c.code pc = .ok (.lstore_n i, 1)) (hl : storeLocals L i.val (.long v) = some L') (G : own_Go p e below T (mkF m (pc + 1) L' S) Φ) : own_Go p e below T (mkF m pc L (.long v :: S)) Φ := own_by (fun t k => XS.lstoreN h hx rfl hd rfl hl k) G
theorem own_s_lstore {p : Program} {e : Env} {below : List Frame} {T : State} {m : MethodId} {c : Code} {Φ : Outcome → State → Prop} {pc : Nat} {L : Array Slot} {S : List Value} (h : At T m c below) (hx : p.tables.exec = Jvm.exec) {i : Nat} {v : Int64} (L' : Array Slot) (hd : decode c.code pc = .ok (.lstore i, 2)) (hl : storeLocals L i (.long v) = some L') (G : own_Go p e below T (mkF m (pc + 2) L' S) Φ) : own_Go p e below T (mkF m pc L (.long v :: S)) Φ := own_by (fun t k => XS.lstore h hx rfl hd rfl hl k) G
theorem own_s_astoreN {p : Program} {e : Env} {below : List Frame} {T : State} {m : MethodId} {c : Code} {Φ : Outcome → State → Prop} {pc : Nat} {L : Array Slot} {S : List Value} (h : At T m c below) (hx : p.tables.exec = Jvm.exec) {i : Fin 4} {v : Value} (L' : Array Slot) (hd : decode c.code pc = .ok (.astore_n i, 1)) (hv : v.isRef = true) (hl : storeLocals L i.val v = some L') (G : own_Go p e below T (mkF m (pc + 1) L' S) Φ) : own_Go p e below T (mkF m pc L (v :: S)) Φ := own_by (fun t k => XS.astoreN h hx rfl hd rfl hv hl k) G
theorem own_s_astore {p : Program} {e : Env} {below : List Frame} {T : State} {m : MethodId} {c : Code} {Φ : Outcome → State → Prop} {pc : Nat} {L : Array Slot} {S : List Value} (h : At T m c below) (hx : p.tables.exec = Jvm.exec) {i : Nat} {v : Value} (L' : Array Slot) (hd : decode c.code pc = .ok (.astore i, 2)) (hv : v.isRef = true) (hl : storeLocals L i v = some L') (G : own_Go p e below T (mkF m (pc + 2) L' S) Φ) : own_Go p e below T (mkF m pc L (v :: S)) Φ := own_by (fun t k => XS.astore h hx rfl hd rfl hv hl k) G
theorem own_s_iconst {p : Program} {e : Env} {below : List Frame} {T : State} {m : MethodId} {c : Code} {Φ : Outcome → State → Prop} {pc : Nat} {L : Array Slot} {S : List Value} (h : At T m c below) (hx : p.tables.exec = Jvm.exec) {i : Int} (v : Int32) (hd : decode c.code pc = .ok (.iconst i, 1)) (hv : Int32.ofInt i = v) (G : own_Go p e below T (mkF m (pc + 1) L (.int v :: S)) Φ) : own_Go p e below T (mkF m pc L S) Φ := own_by (fun t k => XS.iconst h hx rfl hd (by rw [hv]; exact k)) G
theorem own_s_bipush {p : Program} {e : Env} {below : List Frame} {T : State} {m : MethodId} {c : Code} {Φ : Outcome → State → Prop} {pc : Nat} {L : Array Slot} {S : List Value} (h : At T m c below) (hx : p.tables.exec = Jvm.exec) {i : Int} (v : Int32) (hd : decode c.code pc = .ok (.bipush i, 2)) (hv : (Int8.ofInt i).toInt32 = v) (G : own_Go p e below T (mkF m (pc + 2) L (.int v :: S)) Φ) : own_Go p e below T (mkF m pc L S) Φ := own_by (fun t k => XS.bipush h hx rfl hd (by rw [hv]; exact k)) G
theorem own_s_sipush {p : Program} {e : Env} {below : List Frame} {T : State} {m : MethodId} {c : Code} {Φ : Outcome → State → Prop} {pc : Nat} {L : Array Slot} {S : List Value} (h : At T m c below) (hx : p.tables.exec = Jvm.exec) {i : Int} (v : Int32) (hd : decode c.code pc = .ok (.sipush i, 3)) (hv : (Int16.ofInt i).toInt32 = v) (G : own_Go p e below T (mkF m (pc + 3) L (.int v :: S)) Φ) : own_Go p e below T (mkF m pc L S) Φ := own_by (fun t k => XS.sipush h hx rfl hd (by rw [hv]; exact k)) G
theorem own_s_lconst {p : Program} {e : Env} {below : List Frame} {T : State} {m : MethodId} {c : Code} {Φ : Outcome → State → Prop} {pc : Nat} {L : Array Slot} {S : List Value} (h : At T m c below) (hx : p.tables.exec = Jvm.exec) {i : Fin 2} (v : Int64) (hd : decode c.code pc = .ok (.lconst i, 1)) (hv : Int64.ofNat i = v) (G : own_Go p e below T (mkF m (pc + 1) L (.long v :: S)) Φ) : own_Go p e below T (mkF m pc L S) Φ := own_by (fun t k => XS.lconst h hx rfl hd (by rw [hv]; exact k)) G
theorem own_s_goto {p : Program} {e : Env} {below : List Frame} {T : State} {m : MethodId} {c : Code} {Φ : Outcome → State → Prop} {pc : Nat} {L : Array Slot} {S : List Value} (h : At T m c below) (hx : p.tables.exec = Jvm.exec) {o : Int} (pc' : Nat) (hd : decode c.code pc = .ok (.goto o, 3)) (ho : 0 ≤ (pc : Int) + o) (hp : ((pc : Int) + o).toNat = pc') (G : own_Go p e below T (mkF m pc' L S) Φ) : own_Go p e below T (mkF m pc L S) Φ := own_by (fun t k => XS.goto h hx rfl rfl hd ho hp k) G
theorem own_s_ifYes {p : Program} {e : Env} {below : List Frame} {T : State} {m : MethodId} {c : Code} {Φ : Outcome → State → Prop} {pc : Nat} {L : Array Slot} {S : List Value} (h : At T m c below) (hx : p.tables.exec = Jvm.exec) {cd : ClassFile.Cond} {x : Int32} {o : Int} (pc' : Nat) (hd : decode c.code pc = .ok (.ifCond cd o, 3)) (hc : ifCond.holds cd x = true) (ho : 0 ≤ (pc : Int) + o) (hp : ((pc : Int) + o).toNat = pc') (G : own_Go p e below T (mkF m pc' L S) Φ) : own_Go p e below T (mkF m pc L (.int x :: S)) Φ := own_by (fun t k => XS.ifYes h hx rfl rfl hd rfl hc ho hp k) G
theorem own_s_ifNo {p : Program} {e : Env} {below : List Frame} {T : State} {m : MethodId} {c : Code} {Φ : Outcome → State → Prop} {pc : Nat} {L : Array Slot} {S : List Value} (h : At T m c below) (hx : p.tables.exec = Jvm.exec) {cd : ClassFile.Cond} {x : Int32} {o : Int} (hd : decode c.code pc = .ok (.ifCond cd o, 3)) (hc : ifCond.holds cd x = false) (G : own_Go p e below T (mkF m (pc + 3) L S) Φ) : own_Go p e below T (mkF m pc L (.int x :: S)) Φ := own_by (fun t k => XS.ifNo h hx rfl hd rfl hc k) G
theorem own_s_icmpYes {p : Program} {e : Env} {below : List Frame} {T : State} {m : MethodId} {c : Code} {Φ : Outcome → State → Prop} {pc : Nat} {L : Array Slot} {S : List Value} (h : At T m c below) (hx : p.tables.exec = Jvm.exec) {cd : ClassFile.Cond} {x y : Int32} {o : Int} (pc' : Nat) (hd : decode c.code pc = .ok (.if_icmp cd o, 3)) (hc : if_icmp.holds cd x y = true) (ho : 0 ≤ (pc : Int) + o) (hp : ((pc : Int) + o).toNat = pc') (G : own_Go p e below T (mkF m pc' L S) Φ) : own_Go p e below T (mkF m pc L (.int y :: .int x :: S)) Φ := own_by (fun t k => XS.icmpYes h hx rfl rfl hd rfl hc ho hp k) G
theorem own_s_icmpNo {p : Program} {e : Env} {below : List Frame} {T : State} {m : MethodId} {c : Code} {Φ : Outcome → State → Prop} {pc : Nat} {L : Array Slot} {S : List Value} (h : At T m c below) (hx : p.tables.exec = Jvm.exec) {cd : ClassFile.Cond} {x y : Int32} {o : Int} (hd : decode c.code pc = .ok (.if_icmp cd o, 3)) (hc : if_icmp.holds cd x y = false) (G : own_Go p e below T (mkF m (pc + 3) L S) Φ) : own_Go p e below T (mkF m pc L (.int y :: .int x :: S)) Φ := own_by (fun t k => XS.icmpNo h hx rfl hd rfl hc k) G
theorem own_s_lcmp {p : Program} {e : Env} {below : List Frame} {T : State} {m : MethodId} {c : Code} {Φ : Outcome → State → Prop} {pc : Nat} {L : Array Slot} {S : List Value} (h : At T m c below) (hx : p.tables.exec = Jvm.exec) {x y : Int64} (hd : decode c.code pc = .ok (.lcmp, 1)) (G : own_Go p e below T (mkF m (pc + 1) L (.int (Jvm.Free.XT.cmpL x y) :: S)) Φ) : own_Go p e below T (mkF m pc L (.long y :: .long x :: S)) Φ := own_by (fun t k => Jvm.Free.XT.lcmp h hx rfl hd rfl k) G
theorem own_s_dup {p : Program} {e : Env} {below : List Frame} {T : State} {m : MethodId} {c : Code} {Φ : Outcome → State → Prop} {pc : Nat} {L : Array Slot} {S : List Value} (h : At T m c below) (hx : p.tables.exec = Jvm.exec) {x : Value} (hd : decode c.code pc = .ok (.dup, 1)) (hc : x.category = 1) (G : own_Go p e below T (mkF m (pc + 1) L (x :: x :: S)) Φ) : own_Go p e below T (mkF m pc L (x :: S)) Φ := own_by (fun t k => XS.dup h hx rfl hd rfl hc k) G
theorem own_s_pop {p : Program} {e : Env} {below : List Frame} {T : State} {m : MethodId} {c : Code} {Φ : Outcome → State → Prop} {pc : Nat} {L : Array Slot} {S : List Value} (h : At T m c below) (hx : p.tables.exec = Jvm.exec) {x : Value} (hd : decode c.code pc = .ok (.pop, 1)) (hc : x.category = 1) (G : own_Go p e below T (mkF m (pc + 1) L S) Φ) : own_Go p e below T (mkF m pc L (x :: S)) Φ := own_by (fun t k => XS.pop h hx rfl hd rfl hc k) G

theorem own_d7_0 : decode jdk_30_method_1_code 0 = .ok (.aload_n 0, 1) := by decide +kernel
theorem own_d7_1 : decode jdk_30_method_1_code 1 = .ok (.invokespecial 1, 3) := by decide +kernel
theorem own_d7_4 : decode jdk_30_method_1_code 4 = .ok (.return_, 1) := by decide +kernel
theorem own_pn_Record : plainName "java/lang/Record" = true := by first | (simp [plainName, overriddenIn]; done) | decide +kernel
theorem own_ef7 (m : MethodId) (this : Addr) : entryFrame m #[(.ref this)] 1 = mkF m 0 #[.val (.ref this)] [] := by first | (simp [entryFrame, mkF, argsToLocals, Value.category]; done) | rfl
def own_q_own_r7 (Z : State) (this : Addr) (h0 : Heap) (n0 : Nat) (v : Option Value) (h : Heap) (L : List Loc) : Prop := v = none ∧ Fr n0 L ∧ h = h0
set_option maxRecDepth 65536 in
set_option maxHeartbeats 40000000 in
theorem own_r7 (l : Launch) (Z : State) (a0 : Array Value) (hw : ∀ d ∈ tables_1, d.before a0 Z = true) (ws : List Jvm.Cond) (this : Addr) (h0 : Heap) (n0 : Nat) (Z0 : n0 ≤ h0.size) :
    MetFree l (⟨"java/lang/Record", "<init>", "()V"⟩ : MethodName) (head1 (Jvm.Cond.code (⟨"java/lang/Record", "<init>", "()V"⟩ : MethodName) jdk_30_method_1_code 1 none :: ws) ({ frames := 1, cells := 0, slots := 0, locals := 12 } : Room)) (fun a U => a = #[(.ref this)] ∧ Z.Warmed39 U.vm ∧ U.heap = h0) (fun _ _ _ _ _ => True) (fun _ U o U' => ∃ v L, o = .returned v ∧ own_q_own_r7 Z this h0 n0 v U'.heap L ∧ FrameEnd U o U' L ({ frames := 1, cells := 0, slots := 0, locals := 12 } : Room).cells ({ frames := 1, cells := 0, slots := 0, locals := 12 } : Room).slots) := by
  refine MetFree.of_bodySF (plainFor_of_name own_pn_Record) hisR ?_
  intro p e s m args below meth c T0 Bd hml0 hP hK
  obtain ⟨rfl, hZ, hh⟩ := hP
  have hx := Bd.exec
  have hby := Bd.bytes
  have hml : c.maxLocals = 1 := hml0
  have hown : s.vm.findClass "java/lang/Record" = some m.cls := findClass_of_methodNamed Bd.named
  have hnm := (name_of_methodNamed Bd.named Bd.method).1
  have hret : meth.sig.returnType = none := Bd.returns
  have hlk : meth.locks = false := BodyLoose.notSynchronized Bd
  have X0 : Stand p l e ({ frames := 1, cells := 0, slots := 0, locals := 12 } : Room) s m #[(.ref this)] below meth c T0 [] 0 0 := Stand.of_body Bd
  have e0 : T0.heap = h0 := by rw [← hh, Bd.state]; rfl
  have N0 := Fr.nil n0
  refine own_start (own_ef7 m this) (Q := fun (v : Option Value) (h : Heap) (L : List Loc) => v = none ∧ Fr n0 L ∧ h = h0) (k := 0) (j := 0) ?_
  show own_Go p e below T0 (mkF m 0 #[.val (.ref this)] []) _
  refine own_s_aloadN X0.here hx (hb hby own_d7_0) rfl rfl ?_
  obtain ⟨T1, X1, e1, st1⟩ := initO X0 hx hZ hown (hw _ (List.mem_of_getElem? (i := 47) rfl)) (hw _ (List.mem_of_getElem? (i := 7) rfl)) (hw _ (List.mem_of_getElem? (i := 8) rfl)) e0 (g := (mkF m 1 #[.val (.ref this)] [(.ref this)])) rfl (by rw [hml]; rfl) rfl (hb hby own_d7_1) (by decide) (W := 0) (by show 2 * 0 + _ ≤ _; exact Nat.le_of_eq rfl) (by decide)
  refine own_by st1 ?_
  show own_Go p e below T1 (mkF m 4 #[.val (.ref this)] []) _
  refine own_retV X1 hx hret hlk (hb hby own_d7_4) (by decide) (by decide) ?_
  exact ⟨rfl, N0, e1⟩
theorem own_d6_0 : decode prog_2_method_1_code 0 = .ok (.aload_n 0, 1) := by decide +kernel
theorem own_d6_1 : decode prog_2_method_1_code 1 = .ok (.invokespecial 1, 3) := by decide +kernel
theorem own_d6_4 : decode prog_2_method_1_code 4 = .ok (.aload_n 0, 1) := by decide +kernel
theorem own_d6_5 : decode prog_2_method_1_code 5 = .ok (.lload_n 1, 1) := by decide +kernel
theorem own_d6_6 : decode prog_2_method_1_code 6 = .ok (.putfield 7, 3) := by decide +kernel
theorem own_d6_9 : decode prog_2_method_1_code 9 = .ok (.aload_n 0, 1) := by decide +kernel
theorem own_d6_10 : decode prog_2_method_1_code 10 = .ok (.lload_n 3, 1) := by decide +kernel
theorem own_d6_11 : decode prog_2_method_1_code 11 = .ok (.putfield 13, 3) := by decide +kernel
theorem own_d6_14 : decode prog_2_method_1_code 14 = .ok (.aload_n 0, 1) := by decide +kernel
theorem own_d6_15 : decode prog_2_method_1_code 15 = .ok (.lload 5, 2) := by decide +kernel
theorem own_d6_17 : decode prog_2_method_1_code 17 = .ok (.putfield 16, 3) := by decide +kernel
theorem own_d6_20 : decode prog_2_method_1_code 20 = .ok (.return_, 1) := by decide +kernel
theorem own_pn_BreakerCounts : plainName "com/example/fairlead/fairlead/model/BreakerCounts" = true := by first | (simp [plainName, overriddenIn]; done) | decide +kernel
theorem own_ef6 (m : MethodId) (this : Addr) (q1 : Int64) (q2 : Int64) (q3 : Int64) : entryFrame m #[(.ref this), (.long q1), (.long q2), (.long q3)] 7 = mkF m 0 #[.val (.ref this), .val (.long q1), .second, .val (.long q2), .second, .val (.long q3), .second] [] := by first | (simp [entryFrame, mkF, argsToLocals, Value.category]; done) | rfl
theorem own_pd_1 : parseMethodDescriptor "()V" = some ⟨[], none⟩ := by decide +kernel
def own_q_own_r6 (Z : State) (this : Addr) (q1 : Int64) (q2 : Int64) (q3 : Int64) (h0 : Heap) (n0 : Nat) (v : Option Value) (h : Heap) (L : List Loc) : Prop := v = none ∧ Fr n0 L ∧ Keep h0 h [this] ∧ Fld Z h this "com/example/fairlead/fairlead/model/BreakerCounts" "calls" "J" (.long q1) ∧ Fld Z h this "com/example/fairlead/fairlead/model/BreakerCounts" "failures" "J" (.long q2) ∧ Fld Z h this "com/example/fairlead/fairlead/model/BreakerCounts" "slowCalls" "J" (.long q3)
set_option maxRecDepth 65536 in
set_option maxHeartbeats 40000000 in
theorem own_r6 (l : Launch) (Z : State) (a0 : Array Value) (hw : ∀ d ∈ tables_1, d.before a0 Z = true) (ws : List Jvm.Cond) (this : Addr) (q1 : Int64) (q2 : Int64) (q3 : Int64) (h0 : Heap) (n0 : Nat) (Z0 : n0 ≤ h0.size) (E_this : Exa Z h0 this "com/example/fairlead/fairlead/model/BreakerCounts") (F_this_calls : Fld Z h0 this "com/example/fairlead/fairlead/model/BreakerCounts" "calls" "J" (.long (0 : Int64))) (F_this_failures : Fld Z h0 this "com/example/fairlead/fairlead/model/BreakerCounts" "failures" "J" (.long (0 : Int64))) (F_this_slowCalls : Fld Z h0 this "com/example/fairlead/fairlead/model/BreakerCounts" "slowCalls" "J" (.long (0 : Int64))) (ge_this : n0 ≤ this) :
    MetFree l (⟨"com/example/fairlead/fairlead/model/BreakerCounts", "<init>", "(JJJ)V"⟩ : MethodName) (head1 (Jvm.Cond.code (⟨"com/example/fairlead/fairlead/model/BreakerCounts", "<init>", "(JJJ)V"⟩ : MethodName) prog_2_method_1_code 7 none :: ws) ({ frames := 2, cells := 0, slots := 0, locals := 24 } : Room)) (fun a U => a = #[(.ref this), (.long q1), (.long q2), (.long q3)] ∧ Z.Warmed39 U.vm ∧ U.heap = h0) (fun _ _ _ _ _ => True) (fun _ U o U' => ∃ v L, o = .returned v ∧ own_q_own_r6 Z this q1 q2 q3 h0 n0 v U'.heap L ∧ FrameEnd U o U' L ({ frames := 2, cells := 0, slots := 0, locals := 24 } : Room).cells ({ frames := 2, cells := 0, slots := 0, locals := 24 } : Room).slots) := by
  refine MetFree.of_bodySF (plainFor_of_name own_pn_BreakerCounts) hisR ?_
  intro p e s m args below meth c T0 Bd hml0 hP hK
  obtain ⟨rfl, hZ, hh⟩ := hP
  have hx := Bd.exec
  have hby := Bd.bytes
  have hml : c.maxLocals = 7 := hml0
  have hown : s.vm.findClass "com/example/fairlead/fairlead/model/BreakerCounts" = some m.cls := findClass_of_methodNamed Bd.named
  have hnm := (name_of_methodNamed Bd.named Bd.method).1
  have hret : meth.sig.returnType = none := Bd.returns
  have hlk : meth.locks = false := BodyLoose.notSynchronized Bd
  have X0 : Stand p l e ({ frames := 2, cells := 0, slots := 0, locals := 24 } : Room) s m #[(.ref this), (.long q1), (.long q2), (.long q3)] below meth c T0 [] 0 0 := Stand.of_body Bd
  have e0 : T0.heap = h0 := by rw [← hh, Bd.state]; rfl
  have N0 := Fr.nil n0
  refine own_start (own_ef6 m this q1 q2 q3) (Q := fun (v : Option Value) (h : Heap) (L : List Loc) => v = none ∧ Fr n0 L ∧ Keep h0 h [this] ∧ Fld Z h this "com/example/fairlead/fairlead/model/BreakerCounts" "calls" "J" (.long q1) ∧ Fld Z h this "com/example/fairlead/fairlead/model/BreakerCounts" "failures" "J" (.long q2) ∧ Fld Z h this "com/example/fairlead/fairlead/model/BreakerCounts" "slowCalls" "J" (.long q3)) (k := 0) (j := 0) ?_
  show own_Go p e below T0 (mkF m 0 #[.val (.ref this), .val (.long q1), .second, .val (.long q2), .second, .val (.long q3), .second] []) _
  have K0 := Keep.refl h0 [this]
  refine own_s_aloadN X0.here hx (hb hby own_d6_0) rfl rfl ?_
  obtain ⟨_, _, ⟨T2, L2, k2, n2⟩, -, X2, ⟨Lc2, hQ2, l2, y2, z2⟩, st2⟩ := X0.specialBack hx (y := (⟨"java/lang/Record", "<init>", "()V"⟩ : MethodName)) rfl hown (mvT hZ (hw _ (List.mem_of_getElem? (i := 42) rfl))) (mvT hZ (hw _ (List.mem_of_getElem? (i := 43) rfl))) (mvT hZ (hw _ (List.mem_of_getElem? (i := 46) rfl))) (by decide) (backOf (W := 0) (own_r7 l Z a0 hw [] this  h0 n0 Z0 ) hZ (hw _ (List.mem_of_getElem? (i := 46) rfl)) (hw _ (List.mem_of_getElem? (i := 45) rfl)) (by decide) (by decide)) (g := (mkF m 1 #[.val (.ref this), .val (.long q1), .second, .val (.long q2), .second, .val (.long q3), .second] [(.ref this)])) rfl (by rw [hml]; rfl) (Steps.refl _) (a := this) (argsL := []) (rest := []) (lenOf own_pd_1 rfl) rfl (by show 2 * 0 + _ ≤ _; exact Nat.le_of_eq rfl) (hb hby own_d6_1) (fun _ _ => ⟨rfl, e0, (by decide : 0 + 0 ≤ _), (by decide : 0 + 0 ≤ _)⟩)
  dsimp only [Pt.U, Pt.locs, Pt.cells, Pt.slots] at X2 l2 y2 z2 st2 hQ2
  subst l2 y2 z2
  obtain ⟨rfl, N2q, e2⟩ := hQ2
  have N2 := Fr.app N0 N2q
  refine own_by (fun t k => st2.trans k) ?_
  show own_Go p e below T2 (mkF m 4 #[.val (.ref this), .val (.long q1), .second, .val (.long q2), .second, .val (.long q3), .second] []) _
  refine own_s_aloadN X2.here hx (hb hby own_d6_4) rfl rfl ?_
  refine own_s_lloadN X2.here hx (hb hby own_d6_5) rfl ?_
  obtain ⟨T3, h3, X3, e3, W3, st3⟩ := putF X2 hx hZ hown (host := "") (Or.inl (hw _ (List.mem_of_getElem? (i := 48) rfl))) Via.refl e2 F_this_calls E_this (Or.inr ⟨(hw _ (List.mem_of_getElem? (i := 49) rfl)), rfl, hnm⟩) (hw _ (List.mem_of_getElem? (i := 37) rfl)) (ty := .long) (by decide) rfl rfl (g := (mkF m 6 #[.val (.ref this), .val (.long q1), .second, .val (.long q2), .second, .val (.long q3), .second] [(.long q1), (.ref this)])) rfl rfl (hb hby own_d6_6)
  have fw3 := F_this_calls.same W3
  have f4 := E_this.wr W3
  have f5 := F_this_failures.other W3 (Or.inr (slot_ne (Or.inr (hw _ (List.mem_of_getElem? (i := 51) rfl))) (Or.inr (hw _ (List.mem_of_getElem? (i := 49) rfl))) (by decide) (t := .long) (t' := .long) (by decide) (by decide)))
  have f6 := F_this_slowCalls.other W3 (Or.inr (slot_ne (Or.inr (hw _ (List.mem_of_getElem? (i := 53) rfl))) (Or.inr (hw _ (List.mem_of_getElem? (i := 49) rfl))) (by decide) (t := .long) (t' := .long) (by decide) (by decide)))
  have N3 := Fr.snoc X3 N2 ge_this
  have SZ3 : n0 ≤ h3.size := by rw [W3.size]; exact Z0
  have K3 := K0.wr W3 (Or.inl (List.mem_of_getElem? (i := 0) rfl))
  refine own_by st3 ?_
  show own_Go p e below T3 (mkF m 9 #[.val (.ref this), .val (.long q1), .second, .val (.long q2), .second, .val (.long q3), .second] []) _
  refine own_s_aloadN X3.here hx (hb hby own_d6_9) rfl rfl ?_
  refine own_s_lloadN X3.here hx (hb hby own_d6_10) rfl ?_
  obtain ⟨T7, h7, X7, e7, W7, st7⟩ := putF X3 hx hZ hown (host := "") (Or.inl (hw _ (List.mem_of_getElem? (i := 50) rfl))) Via.refl e3 f5 f4 (Or.inr ⟨(hw _ (List.mem_of_getElem? (i := 51) rfl)), rfl, hnm⟩) (hw _ (List.mem_of_getElem? (i := 37) rfl)) (ty := .long) (by decide) rfl rfl (g := (mkF m 11 #[.val (.ref this), .val (.long q1), .second, .val (.long q2), .second, .val (.long q3), .second] [(.long q2), (.ref this)])) rfl rfl (hb hby own_d6_11)
  have fw7 := f5.same W7
  have f8 := f4.wr W7
  have f9 := fw3.other W7 (Or.inr (slot_ne (Or.inr (hw _ (List.mem_of_getElem? (i := 49) rfl))) (Or.inr (hw _ (List.mem_of_getElem? (i := 51) rfl))) (by decide) (t := .long) (t' := .long) (by decide) (by decide)))
  have f10 := f6.other W7 (Or.inr (slot_ne (Or.inr (hw _ (List.mem_of_getElem? (i := 53) rfl))) (Or.inr (hw _ (List.mem_of_getElem? (i := 51) rfl))) (by decide) (t := .long) (t' := .long) (by decide) (by decide)))
  have N7 := Fr.snoc X7 N3 ge_this
  have SZ7 : n0 ≤ h7.size := by rw [W7.size]; exact SZ3
  have K7 := K3.wr W7 (Or.inl (List.mem_of_getElem? (i := 0) rfl))
  refine own_by st7 ?_
  show own_Go p e below T7 (mkF m 14 #[.val (.ref this), .val (.long q1), .second, .val (.long q2), .second, .val (.long q3), .second] []) _
  refine own_s_aloadN X7.here hx (hb hby own_d6_14) rfl rfl ?_
  refine own_s_lload X7.here hx (hb hby own_d6_15) rfl ?_
  obtain ⟨T11, h11, X11, e11, W11, st11⟩ := putF X7 hx hZ hown (host := "") (Or.inl (hw _ (List.mem_of_getElem? (i := 52) rfl))) Via.refl e7 f10 f8 (Or.inr ⟨(hw _ (List.mem_of_getElem? (i := 53) rfl)), rfl, hnm⟩) (hw _ (List.mem_of_getElem? (i := 37) rfl)) (ty := .long) (by decide) rfl rfl (g := (mkF m 17 #[.val (.ref this), .val (.long q1), .second, .val (.long q2), .second, .val (.long q3), .second] [(.long q3), (.ref this)])) rfl rfl (hb hby own_d6_17)
  have fw11 := f10.same W11
  have f12 := f8.wr W11
  have f13 := f9.other W11 (Or.inr (slot_ne (Or.inr (hw _ (List.mem_of_getElem? (i := 49) rfl))) (Or.inr (hw _ (List.mem_of_getElem? (i := 53) rfl))) (by decide) (t := .long) (t' := .long) (by decide) (by decide)))
  have f14 := fw7.other W11 (Or.inr (slot_ne (Or.inr (hw _ (List.mem_of_getElem? (i := 51) rfl))) (Or.inr (hw _ (List.mem_of_getElem? (i := 53) rfl))) (by decide) (t := .long) (t' := .long) (by decide) (by decide)))
  have N11 := Fr.snoc X11 N7 ge_this
  have SZ11 : n0 ≤ h11.size := by rw [W11.size]; exact SZ7
  have K11 := K7.wr W11 (Or.inl (List.mem_of_getElem? (i := 0) rfl))
  refine own_by st11 ?_
  show own_Go p e below T11 (mkF m 20 #[.val (.ref this), .val (.long q1), .second, .val (.long q2), .second, .val (.long q3), .second] []) _
  refine own_retV X11 hx hret hlk (hb hby own_d6_20) (by decide) (by decide) ?_
  rw [e11]
  exact ⟨rfl, N11, K11, f13, f14, fw11⟩
theorem own_d10_0 : decode prog_2_method_5_code 0 = .ok (.aload_n 0, 1) := by decide +kernel
theorem own_d10_1 : decode prog_2_method_5_code 1 = .ok (.getfield 7, 3) := by decide +kernel
theorem own_d10_4 : decode prog_2_method_5_code 4 = .ok (.lreturn, 1) := by decide +kernel
theorem own_ef10 (m : MethodId) (this : Addr) : entryFrame m #[(.ref this)] 1 = mkF m 0 #[.val (.ref this)] [] := by first | (simp [entryFrame, mkF, argsToLocals, Value.category]; done) | rfl
def own_q_own_r10 (Z : State) (this : Addr) (z : Int64) (h0 : Heap) (n0 : Nat) (v : Option Value) (h : Heap) (L : List Loc) : Prop := v = some (.long z) ∧ Fr n0 L ∧ h = h0
set_option maxRecDepth 65536 in
set_option maxHeartbeats 40000000 in
theorem own_r10 (l : Launch) (Z : State) (a0 : Array Value) (hw : ∀ d ∈ tables_1, d.before a0 Z = true) (ws : List Jvm.Cond) (this : Addr) (z : Int64) (h0 : Heap) (n0 : Nat) (Z0 : n0 ≤ h0.size) (F_this_calls : Fld Z h0 this "com/example/fairlead/fairlead/model/BreakerCounts" "calls" "J" (.long z)) :
    MetFree l (⟨"com/example/fairlead/fairlead/model/BreakerCounts", "calls", "()J"⟩ : MethodName) (head1 (Jvm.Cond.code (⟨"com/example/fairlead/fairlead/model/BreakerCounts", "calls", "()J"⟩ : MethodName) prog_2_method_5_code 1 (some .long) :: ws) ({ frames := 0, cells := 0, slots := 0, locals := 0 } : Room)) (fun a U => a = #[(.ref this)] ∧ Z.Warmed39 U.vm ∧ U.heap = h0) (fun _ _ _ _ _ => True) (fun _ U o U' => ∃ v L, o = .returned v ∧ own_q_own_r10 Z this z h0 n0 v U'.heap L ∧ FrameEnd U o U' L ({ frames := 0, cells := 0, slots := 0, locals := 0 } : Room).cells ({ frames := 0, cells := 0, slots := 0, locals := 0 } : Room).slots) := by
  refine MetFree.of_bodySF (plainFor_of_name own_pn_BreakerCounts) hisR ?_
  intro p e s m args below meth c T0 Bd hml0 hP hK
  obtain ⟨rfl, hZ, hh⟩ := hP
  have hx := Bd.exec
  have hby := Bd.bytes
  have hml : c.maxLocals = 1 := hml0
  have hown : s.vm.findClass "com/example/fairlead/fairlead/model/BreakerCounts" = some m.cls := findClass_of_methodNamed Bd.named
  have hnm := (name_of_methodNamed Bd.named Bd.method).1
  have hret : meth.sig.returnType = (some .long) := Bd.returns
  have hlk : meth.locks = false := BodyLoose.notSynchronized Bd
  have X0 : Stand p l e ({ frames := 0, cells := 0, slots := 0, locals := 0 } : Room) s m #[(.ref this)] below meth c T0 [] 0 0 := Stand.of_body Bd
  have e0 : T0.heap = h0 := by rw [← hh, Bd.state]; rfl
  have N0 := Fr.nil n0
  refine own_start (own_ef10 m this) (Q := fun (v : Option Value) (h : Heap) (L : List Loc) => v = some (.long z) ∧ Fr n0 L ∧ h = h0) (k := 0) (j := 0) ?_
  show own_Go p e below T0 (mkF m 0 #[.val (.ref this)] []) _
  refine own_s_aloadN X0.here hx (hb hby own_d10_0) rfl rfl ?_
  obtain ⟨T15, X15, e15, st15⟩ := getF X0 hx hZ hown (host := "") (Or.inl (hw _ (List.mem_of_getElem? (i := 48) rfl))) Via.refl e0 F_this_calls (g := (mkF m 1 #[.val (.ref this)] [(.ref this)])) rfl rfl (hb hby own_d10_1)
  refine own_by st15 ?_
  show own_Go p e below T15 (mkF m 4 #[.val (.ref this)] [(.long z)]) _
  refine own_retJ X15 hx hret hlk (hb hby own_d10_4) (by decide) (by decide) ?_
  exact ⟨rfl, N0, e15⟩
theorem own_d11_0 : decode prog_2_method_6_code 0 = .ok (.aload_n 0, 1) := by decide +kernel
theorem own_d11_1 : decode prog_2_method_6_code 1 = .ok (.getfield 13, 3) := by decide +kernel
theorem own_d11_4 : decode prog_2_method_6_code 4 = .ok (.lreturn, 1) := by decide +kernel
theorem own_ef11 (m : MethodId) (this : Addr) : entryFrame m #[(.ref this)] 1 = mkF m 0 #[.val (.ref this)] [] := by first | (simp [entryFrame, mkF, argsToLocals, Value.category]; done) | rfl
def own_q_own_r11 (Z : State) (this : Addr) (z : Int64) (h0 : Heap) (n0 : Nat) (v : Option Value) (h : Heap) (L : List Loc) : Prop := v = some (.long z) ∧ Fr n0 L ∧ h = h0
set_option maxRecDepth 65536 in
set_option maxHeartbeats 40000000 in
theorem own_r11 (l : Launch) (Z : State) (a0 : Array Value) (hw : ∀ d ∈ tables_1, d.before a0 Z = true) (ws : List Jvm.Cond) (this : Addr) (z : Int64) (h0 : Heap) (n0 : Nat) (Z0 : n0 ≤ h0.size) (F_this_failures : Fld Z h0 this "com/example/fairlead/fairlead/model/BreakerCounts" "failures" "J" (.long z)) :
    MetFree l (⟨"com/example/fairlead/fairlead/model/BreakerCounts", "failures", "()J"⟩ : MethodName) (head1 (Jvm.Cond.code (⟨"com/example/fairlead/fairlead/model/BreakerCounts", "failures", "()J"⟩ : MethodName) prog_2_method_6_code 1 (some .long) :: ws) ({ frames := 0, cells := 0, slots := 0, locals := 0 } : Room)) (fun a U => a = #[(.ref this)] ∧ Z.Warmed39 U.vm ∧ U.heap = h0) (fun _ _ _ _ _ => True) (fun _ U o U' => ∃ v L, o = .returned v ∧ own_q_own_r11 Z this z h0 n0 v U'.heap L ∧ FrameEnd U o U' L ({ frames := 0, cells := 0, slots := 0, locals := 0 } : Room).cells ({ frames := 0, cells := 0, slots := 0, locals := 0 } : Room).slots) := by
  refine MetFree.of_bodySF (plainFor_of_name own_pn_BreakerCounts) hisR ?_
  intro p e s m args below meth c T0 Bd hml0 hP hK
  obtain ⟨rfl, hZ, hh⟩ := hP
  have hx := Bd.exec
  have hby := Bd.bytes
  have hml : c.maxLocals = 1 := hml0
  have hown : s.vm.findClass "com/example/fairlead/fairlead/model/BreakerCounts" = some m.cls := findClass_of_methodNamed Bd.named
  have hnm := (name_of_methodNamed Bd.named Bd.method).1
  have hret : meth.sig.returnType = (some .long) := Bd.returns
  have hlk : meth.locks = false := BodyLoose.notSynchronized Bd
  have X0 : Stand p l e ({ frames := 0, cells := 0, slots := 0, locals := 0 } : Room) s m #[(.ref this)] below meth c T0 [] 0 0 := Stand.of_body Bd
  have e0 : T0.heap = h0 := by rw [← hh, Bd.state]; rfl
  have N0 := Fr.nil n0
  refine own_start (own_ef11 m this) (Q := fun (v : Option Value) (h : Heap) (L : List Loc) => v = some (.long z) ∧ Fr n0 L ∧ h = h0) (k := 0) (j := 0) ?_
  show own_Go p e below T0 (mkF m 0 #[.val (.ref this)] []) _
  refine own_s_aloadN X0.here hx (hb hby own_d11_0) rfl rfl ?_
  obtain ⟨T16, X16, e16, st16⟩ := getF X0 hx hZ hown (host := "") (Or.inl (hw _ (List.mem_of_getElem? (i := 50) rfl))) Via.refl e0 F_this_failures (g := (mkF m 1 #[.val (.ref this)] [(.ref this)])) rfl rfl (hb hby own_d11_1)
  refine own_by st16 ?_
  show own_Go p e below T16 (mkF m 4 #[.val (.ref this)] [(.long z)]) _
  refine own_retJ X16 hx hret hlk (hb hby own_d11_4) (by decide) (by decide) ?_
  exact ⟨rfl, N0, e16⟩
theorem own_d12_0 : decode prog_2_method_7_code 0 = .ok (.aload_n 0, 1) := by decide +kernel
theorem own_d12_1 : decode prog_2_method_7_code 1 = .ok (.getfield 16, 3) := by decide +kernel
theorem own_d12_4 : decode prog_2_method_7_code 4 = .ok (.lreturn, 1) := by decide +kernel
theorem own_ef12 (m : MethodId) (this : Addr) : entryFrame m #[(.ref this)] 1 = mkF m 0 #[.val (.ref this)] [] := by first | (simp [entryFrame, mkF, argsToLocals, Value.category]; done) | rfl
def own_q_own_r12 (Z : State) (this : Addr) (z : Int64) (h0 : Heap) (n0 : Nat) (v : Option Value) (h : Heap) (L : List Loc) : Prop := v = some (.long z) ∧ Fr n0 L ∧ h = h0
set_option maxRecDepth 65536 in
set_option maxHeartbeats 40000000 in
theorem own_r12 (l : Launch) (Z : State) (a0 : Array Value) (hw : ∀ d ∈ tables_1, d.before a0 Z = true) (ws : List Jvm.Cond) (this : Addr) (z : Int64) (h0 : Heap) (n0 : Nat) (Z0 : n0 ≤ h0.size) (F_this_slowCalls : Fld Z h0 this "com/example/fairlead/fairlead/model/BreakerCounts" "slowCalls" "J" (.long z)) :
    MetFree l (⟨"com/example/fairlead/fairlead/model/BreakerCounts", "slowCalls", "()J"⟩ : MethodName) (head1 (Jvm.Cond.code (⟨"com/example/fairlead/fairlead/model/BreakerCounts", "slowCalls", "()J"⟩ : MethodName) prog_2_method_7_code 1 (some .long) :: ws) ({ frames := 0, cells := 0, slots := 0, locals := 0 } : Room)) (fun a U => a = #[(.ref this)] ∧ Z.Warmed39 U.vm ∧ U.heap = h0) (fun _ _ _ _ _ => True) (fun _ U o U' => ∃ v L, o = .returned v ∧ own_q_own_r12 Z this z h0 n0 v U'.heap L ∧ FrameEnd U o U' L ({ frames := 0, cells := 0, slots := 0, locals := 0 } : Room).cells ({ frames := 0, cells := 0, slots := 0, locals := 0 } : Room).slots) := by
  refine MetFree.of_bodySF (plainFor_of_name own_pn_BreakerCounts) hisR ?_
  intro p e s m args below meth c T0 Bd hml0 hP hK
  obtain ⟨rfl, hZ, hh⟩ := hP
  have hx := Bd.exec
  have hby := Bd.bytes
  have hml : c.maxLocals = 1 := hml0
  have hown : s.vm.findClass "com/example/fairlead/fairlead/model/BreakerCounts" = some m.cls := findClass_of_methodNamed Bd.named
  have hnm := (name_of_methodNamed Bd.named Bd.method).1
  have hret : meth.sig.returnType = (some .long) := Bd.returns
  have hlk : meth.locks = false := BodyLoose.notSynchronized Bd
  have X0 : Stand p l e ({ frames := 0, cells := 0, slots := 0, locals := 0 } : Room) s m #[(.ref this)] below meth c T0 [] 0 0 := Stand.of_body Bd
  have e0 : T0.heap = h0 := by rw [← hh, Bd.state]; rfl
  have N0 := Fr.nil n0
  refine own_start (own_ef12 m this) (Q := fun (v : Option Value) (h : Heap) (L : List Loc) => v = some (.long z) ∧ Fr n0 L ∧ h = h0) (k := 0) (j := 0) ?_
  show own_Go p e below T0 (mkF m 0 #[.val (.ref this)] []) _
  refine own_s_aloadN X0.here hx (hb hby own_d12_0) rfl rfl ?_
  obtain ⟨T17, X17, e17, st17⟩ := getF X0 hx hZ hown (host := "") (Or.inl (hw _ (List.mem_of_getElem? (i := 52) rfl))) Via.refl e0 F_this_slowCalls (g := (mkF m 1 #[.val (.ref this)] [(.ref this)])) rfl rfl (hb hby own_d12_1)
  refine own_by st17 ?_
  show own_Go p e below T17 (mkF m 4 #[.val (.ref this)] [(.long z)]) _
  refine own_retJ X17 hx hret hlk (hb hby own_d12_4) (by decide) (by decide) ?_
  exact ⟨rfl, N0, e17⟩
theorem own_d5_0 : decode prog_24_method_3_code 0 = .ok (.new 29, 3) := by decide +kernel
theorem own_d5_3 : decode prog_24_method_3_code 3 = .ok (.dup, 1) := by decide +kernel
theorem own_d5_4 : decode prog_24_method_3_code 4 = .ok (.aload_n 0, 1) := by decide +kernel
theorem own_d5_5 : decode prog_24_method_3_code 5 = .ok (.getfield 16, 3) := by decide +kernel
theorem own_d5_8 : decode prog_24_method_3_code 8 = .ok (.i2l, 1) := by decide +kernel
theorem own_d5_9 : decode prog_24_method_3_code 9 = .ok (.aload_n 0, 1) := by decide +kernel
theorem own_d5_10 : decode prog_24_method_3_code 10 = .ok (.getfield 20, 3) := by decide +kernel
theorem own_d5_13 : decode prog_24_method_3_code 13 = .ok (.i2l, 1) := by decide +kernel
theorem own_d5_14 : decode prog_24_method_3_code 14 = .ok (.aload_n 0, 1) := by decide +kernel
theorem own_d5_15 : decode prog_24_method_3_code 15 = .ok (.getfield 26, 3) := by decide +kernel
theorem own_d5_18 : decode prog_24_method_3_code 18 = .ok (.i2l, 1) := by decide +kernel
theorem own_d5_19 : decode prog_24_method_3_code 19 = .ok (.invokespecial 31, 3) := by decide +kernel
theorem own_d5_22 : decode prog_24_method_3_code 22 = .ok (.areturn, 1) := by decide +kernel
theorem own_pn_CountWindow : plainName "com/example/fairlead/fairlead/policy/CountWindow" = true := by first | (simp [plainName, overriddenIn]; done) | decide +kernel
theorem own_ef5 (m : MethodId) (this : Addr) (q1 : Int64) : entryFrame m #[(.ref this), (.long q1)] 3 = mkF m 0 #[.val (.ref this), .val (.long q1), .second] [] := by first | (simp [entryFrame, mkF, argsToLocals, Value.category]; done) | rfl
theorem own_pd_5 : parseMethodDescriptor "(JJJ)V" = some ⟨[.long, .long, .long], none⟩ := by decide +kernel
def own_q_own_r5 (Z : State) (this : Addr) (q1 : Int64) (c1 c2 c3 : Int32) (h0 : Heap) (n0 : Nat) (v : Option Value) (h : Heap) (L : List Loc) : Prop := ∃ b : Addr, v = some (.ref b) ∧ Fr n0 L ∧ n0 ≤ b ∧ Keep h0 h [] ∧ Exa Z h b "com/example/fairlead/fairlead/model/BreakerCounts" ∧ Fld Z h b "com/example/fairlead/fairlead/model/BreakerCounts" "calls" "J" (.long (c1.toInt64)) ∧ Fld Z h b "com/example/fairlead/fairlead/model/BreakerCounts" "failures" "J" (.long (c2.toInt64)) ∧ Fld Z h b "com/example/fairlead/fairlead/model/BreakerCounts" "slowCalls" "J" (.long (c3.toInt64))
set_option maxRecDepth 65536 in
set_option maxHeartbeats 40000000 in
theorem own_r5 (l : Launch) (Z : State) (a0 : Array Value) (hw : ∀ d ∈ tables_1, d.before a0 Z = true) (ws : List Jvm.Cond) (this : Addr) (q1 : Int64) (c1 c2 c3 : Int32) (h0 : Heap) (n0 : Nat) (Z0 : n0 ≤ h0.size) (F_this_calls : Fld Z h0 this "com/example/fairlead/fairlead/policy/CountWindow" "calls" "I" (.int c1)) (F_this_failures : Fld Z h0 this "com/example/fairlead/fairlead/policy/CountWindow" "failures" "I" (.int c2)) (F_this_slowCalls : Fld Z h0 this "com/example/fairlead/fairlead/policy/CountWindow" "slowCalls" "I" (.int c3)) :
    MetFree l (⟨"com/example/fairlead/fairlead/policy/CountWindow", "counts", "(J)Lcom/example/fairlead/fairlead/model/BreakerCounts;"⟩ : MethodName) (head1 (Jvm.Cond.code (⟨"com/example/fairlead/fairlead/policy/CountWindow", "counts", "(J)Lcom/example/fairlead/fairlead/model/BreakerCounts;"⟩ : MethodName) prog_24_method_3_code 3 (some (.object "com/example/fairlead/fairlead/model/BreakerCounts")) :: ws) ({ frames := 3, cells := 1, slots := 3, locals := 43 } : Room)) (fun a U => a = #[(.ref this), (.long q1)] ∧ Z.Warmed39 U.vm ∧ U.heap = h0) (fun _ _ _ _ _ => True) (fun _ U o U' => ∃ v L, o = .returned v ∧ own_q_own_r5 Z this q1 c1 c2 c3 h0 n0 v U'.heap L ∧ FrameEnd U o U' L ({ frames := 3, cells := 1, slots := 3, locals := 43 } : Room).cells ({ frames := 3, cells := 1, slots := 3, locals := 43 } : Room).slots) := by
  refine MetFree.of_bodySF (plainFor_of_name own_pn_CountWindow) hisR ?_
  intro p e s m args below meth c T0 Bd hml0 hP hK
  obtain ⟨rfl, hZ, hh⟩ := hP
  have hx := Bd.exec
  have hby := Bd.bytes
  have hml : c.maxLocals = 3 := hml0
  have hown : s.vm.findClass "com/example/fairlead/fairlead/policy/CountWindow" = some m.cls := findClass_of_methodNamed Bd.named
  have hnm := (name_of_methodNamed Bd.named Bd.method).1
  have hret : meth.sig.returnType = (some (.object "com/example/fairlead/fairlead/model/BreakerCounts")) := Bd.returns
  have hlk : meth.locks = false := BodyLoose.notSynchronized Bd
  have X0 : Stand p l e ({ frames := 3, cells := 1, slots := 3, locals := 43 } : Room) s m #[(.ref this), (.long q1)] below meth c T0 [] 0 0 := Stand.of_body Bd
  have e0 : T0.heap = h0 := by rw [← hh, Bd.state]; rfl
  have N0 := Fr.nil n0
  refine own_start (own_ef5 m this q1) (Q := fun (v : Option Value) (h : Heap) (L : List Loc) => ∃ b : Addr, v = some (.ref b) ∧ Fr n0 L ∧ n0 ≤ b ∧ Keep h0 h [] ∧ Exa Z h b "com/example/fairlead/fairlead/model/BreakerCounts" ∧ Fld Z h b "com/example/fairlead/fairlead/model/BreakerCounts" "calls" "J" (.long (c1.toInt64)) ∧ Fld Z h b "com/example/fairlead/fairlead/model/BreakerCounts" "failures" "J" (.long (c2.toInt64)) ∧ Fld Z h b "com/example/fairlead/fairlead/model/BreakerCounts" "slowCalls" "J" (.long (c3.toInt64))) (k := 1) (j := 3) ?_
  show own_Go p e below T0 (mkF m 0 #[.val (.ref this), .val (.long q1), .second] []) _
  have K0 := Keep.refl h0 []
  obtain ⟨T18, h18, X18, e18, E18, A18, D18, -, st18⟩ := newO X0 hx hZ hown (hw _ (List.mem_of_getElem? (i := 36) rfl)) (hw _ (List.mem_of_getElem? (i := 37) rfl)) (hw _ (List.mem_of_getElem? (i := 38) rfl)) e0 (g := (mkF m 0 #[.val (.ref this), .val (.long q1), .second] [])) rfl (hb hby own_d5_0) (by decide) (by decide)
  obtain ⟨b18, g18⟩ : ∃ z, z = h0.size := ⟨_, rfl⟩
  rw [← g18] at A18 D18 st18
  have ge_b18 : n0 ≤ b18 := Nat.le_trans Z0 (Nat.le_of_eq g18.symm)
  have sz_b18 : h0.size ≤ b18 := Nat.le_trans K0.1 (Nat.le_of_eq g18.symm)
  have ne_this_b18 : this ≠ b18 := Nat.ne_of_lt (Nat.lt_of_lt_of_le F_this_calls.lt (Nat.le_of_eq g18.symm))
  have f19 := F_this_calls.ext E18
  have f20 := F_this_failures.ext E18
  have f21 := F_this_slowCalls.ext E18
  have SZ18 : n0 ≤ h18.size := Nat.le_trans Z0 E18.1
  have K18 := K0.ext E18
  have f22 : Fld Z h18 b18 "com/example/fairlead/fairlead/model/BreakerCounts" "calls" "J" (.long (0 : Int64)) := D18 (Or.inr (hw _ (List.mem_of_getElem? (i := 49) rfl))) (ty := .long) (by decide)
  have f23 : Fld Z h18 b18 "com/example/fairlead/fairlead/model/BreakerCounts" "failures" "J" (.long (0 : Int64)) := D18 (Or.inr (hw _ (List.mem_of_getElem? (i := 51) rfl))) (ty := .long) (by decide)
  have f24 : Fld Z h18 b18 "com/example/fairlead/fairlead/model/BreakerCounts" "slowCalls" "J" (.long (0 : Int64)) := D18 (Or.inr (hw _ (List.mem_of_getElem? (i := 53) rfl))) (ty := .long) (by decide)
  refine own_by st18 ?_
  show own_Go p e below T18 (mkF m 3 #[.val (.ref this), .val (.long q1), .second] [(.ref b18)]) _
  refine own_s_dup X18.here hx (hb hby own_d5_3) rfl ?_
  refine own_s_aloadN X18.here hx (hb hby own_d5_4) rfl rfl ?_
  obtain ⟨T25, X25, e25, st25⟩ := getF X18 hx hZ hown (host := "") (Or.inl (hw _ (List.mem_of_getElem? (i := 23) rfl))) Via.refl e18 f19 (g := (mkF m 5 #[.val (.ref this), .val (.long q1), .second] [(.ref this), (.ref b18), (.ref b18)])) rfl rfl (hb hby own_d5_5)
  refine own_by st25 ?_
  show own_Go p e below T25 (mkF m 8 #[.val (.ref this), .val (.long q1), .second] [(.int c1), (.ref b18), (.ref b18)]) _
  refine own_s_i2l X25.here hx (hb hby own_d5_8) ?_
  refine own_s_aloadN X25.here hx (hb hby own_d5_9) rfl rfl ?_
  obtain ⟨T26, X26, e26, st26⟩ := getF X25 hx hZ hown (host := "") (Or.inl (hw _ (List.mem_of_getElem? (i := 27) rfl))) Via.refl e25 f20 (g := (mkF m 10 #[.val (.ref this), .val (.long q1), .second] [(.ref this), (.long (c1.toInt64)), (.ref b18), (.ref b18)])) rfl rfl (hb hby own_d5_10)
  refine own_by st26 ?_
  show own_Go p e below T26 (mkF m 13 #[.val (.ref this), .val (.long q1), .second] [(.int c2), (.long (c1.toInt64)), (.ref b18), (.ref b18)]) _
  refine own_s_i2l X26.here hx (hb hby own_d5_13) ?_
  refine own_s_aloadN X26.here hx (hb hby own_d5_14) rfl rfl ?_
  obtain ⟨T27, X27, e27, st27⟩ := getF X26 hx hZ hown (host := "") (Or.inl (hw _ (List.mem_of_getElem? (i := 29) rfl))) Via.refl e26 f21 (g := (mkF m 15 #[.val (.ref this), .val (.long q1), .second] [(.ref this), (.long (c2.toInt64)), (.long (c1.toInt64)), (.ref b18), (.ref b18)])) rfl rfl (hb hby own_d5_15)
  refine own_by st27 ?_
  show own_Go p e below T27 (mkF m 18 #[.val (.ref this), .val (.long q1), .second] [(.int c3), (.long (c2.toInt64)), (.long (c1.toInt64)), (.ref b18), (.ref b18)]) _
  refine own_s_i2l X27.here hx (hb hby own_d5_18) ?_
  obtain ⟨_, _, ⟨T28, L28, k28, n28⟩, -, X28, ⟨Lc28, hQ28, l28, y28, z28⟩, st28⟩ := X27.specialBack hx (y := (⟨"com/example/fairlead/fairlead/model/BreakerCounts", "<init>", "(JJJ)V"⟩ : MethodName)) rfl hown (mvT hZ (hw _ (List.mem_of_getElem? (i := 39) rfl))) (mvT hZ (hw _ (List.mem_of_getElem? (i := 40) rfl))) (mvT hZ (hw _ (List.mem_of_getElem? (i := 41) rfl))) (by decide) (backOf (W := 1) (own_r6 l Z a0 hw [] b18 (c1.toInt64) (c2.toInt64) (c3.toInt64)  h18 n0 SZ18 A18 f22 f23 f24 ge_b18) hZ (hw _ (List.mem_of_getElem? (i := 41) rfl)) (hw _ (List.mem_of_getElem? (i := 38) rfl)) (by decide) (by decide)) (g := (mkF m 19 #[.val (.ref this), .val (.long q1), .second] [(.long (c3.toInt64)), (.long (c2.toInt64)), (.long (c1.toInt64)), (.ref b18), (.ref b18)])) rfl (by rw [hml]; rfl) (Steps.refl _) (a := b18) (argsL := [(.long (c1.toInt64)), (.long (c2.toInt64)), (.long (c3.toInt64))]) (rest := [(.ref b18)]) (lenOf own_pd_5 rfl) rfl (by show 2 * 0 + _ ≤ _; exact Nat.le_of_eq rfl) (hb hby own_d5_19) (fun _ _ => ⟨rfl, e27, (by decide : 1 + 0 ≤ _), (by decide : 3 + 0 ≤ _)⟩)
  dsimp only [Pt.U, Pt.locs, Pt.cells, Pt.slots] at X28 l28 y28 z28 st28 hQ28
  subst l28 y28 z28
  obtain ⟨rfl, N28q, K28, fa28, fb28, fc28⟩ := hQ28
  have N28 := Fr.app N0 N28q
  have f29 := f19.keep K28 (ninS ne_this_b18 nin0)
  have f30 := f20.keep K28 (ninS ne_this_b18 nin0)
  have f31 := f21.keep K28 (ninS ne_this_b18 nin0)
  have f32 := A18.keep K28
  have SZ28 : n0 ≤ T28.heap.size := Nat.le_trans SZ18 K28.1
  have KC28 := K18.trans K28 (allS (Or.inr sz_b18) all0)
  refine own_by (fun t k => st28.trans k) ?_
  show own_Go p e below T28 (mkF m 22 #[.val (.ref this), .val (.long q1), .second] [(.ref b18)]) _
  refine own_retA X28 hx hret hlk (hb hby own_d5_22) rfl rfl rfl (by decide) (by decide) ?_
  exact ⟨b18, rfl, N28, ge_b18, KC28, f32, fa28, fb28, fc28⟩
theorem own_d1_0 : decode prog_24_method_1_code 0 = .ok (.aload_n 0, 1) := by decide +kernel
theorem own_d1_1 : decode prog_24_method_1_code 1 = .ok (.invokespecial 1, 3) := by decide +kernel
theorem own_d1_4 : decode prog_24_method_1_code 4 = .ok (.aload_n 0, 1) := by decide +kernel
theorem own_d1_5 : decode prog_24_method_1_code 5 = .ok (.iload_n 1, 1) := by decide +kernel
theorem own_d1_6 : decode prog_24_method_1_code 6 = .ok (.newarray .boolean, 2) := by decide +kernel
theorem own_d1_8 : decode prog_24_method_1_code 8 = .ok (.putfield 7, 3) := by decide +kernel
theorem own_d1_11 : decode prog_24_method_1_code 11 = .ok (.aload_n 0, 1) := by decide +kernel
theorem own_d1_12 : decode prog_24_method_1_code 12 = .ok (.iload_n 1, 1) := by decide +kernel
theorem own_d1_13 : decode prog_24_method_1_code 13 = .ok (.newarray .boolean, 2) := by decide +kernel
theorem own_d1_15 : decode prog_24_method_1_code 15 = .ok (.putfield 13, 3) := by decide +kernel
theorem own_d1_18 : decode prog_24_method_1_code 18 = .ok (.return_, 1) := by decide +kernel
theorem own_ef1 (m : MethodId) (this : Addr) (p1 : Int32) : entryFrame m #[(.ref this), (.int p1)] 2 = mkF m 0 #[.val (.ref this), .val (.int p1)] [] := by first | (simp [entryFrame, mkF, argsToLocals, Value.category]; done) | rfl
def own_q_own_r1 (Z : State) (this : Addr) (p1 : Int32) (n : Nat) (h0 : Heap) (n0 : Nat) (v : Option Value) (h : Heap) (L : List Loc) : Prop := v = none ∧ Fr n0 L ∧ Keep h0 h [this] ∧ ∃ fa sa : Addr, n0 ≤ fa ∧ n0 ≤ sa ∧ this ≠ fa ∧ this ≠ sa ∧ fa ≠ sa ∧ Fld Z h this "com/example/fairlead/fairlead/policy/CountWindow" "failed" "[Z" (.ref fa) ∧ Fld Z h this "com/example/fairlead/fairlead/policy/CountWindow" "slow" "[Z" (.ref sa) ∧ Fld Z h this "com/example/fairlead/fairlead/policy/CountWindow" "calls" "I" (.int (0 : Int32)) ∧ Fld Z h this "com/example/fairlead/fairlead/policy/CountWindow" "failures" "I" (.int (0 : Int32)) ∧ Fld Z h this "com/example/fairlead/fairlead/policy/CountWindow" "slowCalls" "I" (.int (0 : Int32)) ∧ Fld Z h this "com/example/fairlead/fairlead/policy/CountWindow" "next" "I" (.int (0 : Int32)) ∧ own_Av Z h fa .boolean n (fun _ => (.int (0 : Int32))) ∧ own_Av Z h sa .boolean n (fun _ => (.int (0 : Int32)))
set_option maxRecDepth 65536 in
set_option maxHeartbeats 40000000 in
theorem own_r1 (l : Launch) (Z : State) (a0 : Array Value) (hw : ∀ d ∈ tables_1, d.before a0 Z = true) (ws : List Jvm.Cond) (this : Addr) (p1 : Int32) (n : Nat) (h0 : Heap) (n0 : Nat) (Z0 : n0 ≤ h0.size) (hn : p1.toNatClampNeg = n) (hneg : ¬ p1 < 0) (hle : n ≤ 4) (E_this : Exa Z h0 this "com/example/fairlead/fairlead/policy/CountWindow") (F_this_failed : Fld Z h0 this "com/example/fairlead/fairlead/policy/CountWindow" "failed" "[Z" .null) (F_this_slow : Fld Z h0 this "com/example/fairlead/fairlead/policy/CountWindow" "slow" "[Z" .null) (F_this_calls : Fld Z h0 this "com/example/fairlead/fairlead/policy/CountWindow" "calls" "I" (.int (0 : Int32))) (F_this_failures : Fld Z h0 this "com/example/fairlead/fairlead/policy/CountWindow" "failures" "I" (.int (0 : Int32))) (F_this_slowCalls : Fld Z h0 this "com/example/fairlead/fairlead/policy/CountWindow" "slowCalls" "I" (.int (0 : Int32))) (F_this_next : Fld Z h0 this "com/example/fairlead/fairlead/policy/CountWindow" "next" "I" (.int (0 : Int32))) (ge_this : n0 ≤ this) :
    MetFree l (⟨"com/example/fairlead/fairlead/policy/CountWindow", "<init>", "(I)V"⟩ : MethodName) (head1 (Jvm.Cond.code (⟨"com/example/fairlead/fairlead/policy/CountWindow", "<init>", "(I)V"⟩ : MethodName) prog_24_method_1_code 2 none :: ws) ({ frames := 1, cells := 2, slots := 8, locals := 12 } : Room)) (fun a U => a = #[(.ref this), (.int p1)] ∧ Z.Warmed39 U.vm ∧ U.heap = h0) (fun _ _ _ _ _ => True) (fun _ U o U' => ∃ v L, o = .returned v ∧ own_q_own_r1 Z this p1 n h0 n0 v U'.heap L ∧ FrameEnd U o U' L ({ frames := 1, cells := 2, slots := 8, locals := 12 } : Room).cells ({ frames := 1, cells := 2, slots := 8, locals := 12 } : Room).slots) := by
  refine MetFree.of_bodySF (plainFor_of_name own_pn_CountWindow) hisR ?_
  intro p e s m args below meth c T0 Bd hml0 hP hK
  obtain ⟨rfl, hZ, hh⟩ := hP
  have hx := Bd.exec
  have hby := Bd.bytes
  have hml : c.maxLocals = 2 := hml0
  have hown : s.vm.findClass "com/example/fairlead/fairlead/policy/CountWindow" = some m.cls := findClass_of_methodNamed Bd.named
  have hnm := (name_of_methodNamed Bd.named Bd.method).1
  have hret : meth.sig.returnType = none := Bd.returns
  have hlk : meth.locks = false := BodyLoose.notSynchronized Bd
  have X0 : Stand p l e ({ frames := 1, cells := 2, slots := 8, locals := 12 } : Room) s m #[(.ref this), (.int p1)] below meth c T0 [] 0 0 := Stand.of_body Bd
  have e0 : T0.heap = h0 := by rw [← hh, Bd.state]; rfl
  have N0 := Fr.nil n0
  refine own_start (own_ef1 m this p1) (Q := fun (v : Option Value) (h : Heap) (L : List Loc) => v = none ∧ Fr n0 L ∧ Keep h0 h [this] ∧ ∃ fa sa : Addr, n0 ≤ fa ∧ n0 ≤ sa ∧ this ≠ fa ∧ this ≠ sa ∧ fa ≠ sa ∧ Fld Z h this "com/example/fairlead/fairlead/policy/CountWindow" "failed" "[Z" (.ref fa) ∧ Fld Z h this "com/example/fairlead/fairlead/policy/CountWindow" "slow" "[Z" (.ref sa) ∧ Fld Z h this "com/example/fairlead/fairlead/policy/CountWindow" "calls" "I" (.int (0 : Int32)) ∧ Fld Z h this "com/example/fairlead/fairlead/policy/CountWindow" "failures" "I" (.int (0 : Int32)) ∧ Fld Z h this "com/example/fairlead/fairlead/policy/CountWindow" "slowCalls" "I" (.int (0 : Int32)) ∧ Fld Z h this "com/example/fairlead/fairlead/policy/CountWindow" "next" "I" (.int (0 : Int32)) ∧ own_Av Z h fa .boolean n (fun _ => (.int (0 : Int32))) ∧ own_Av Z h sa .boolean n (fun _ => (.int (0 : Int32)))) (k := 2) (j := 8) ?_
  show own_Go p e below T0 (mkF m 0 #[.val (.ref this), .val (.int p1)] []) _
  have K0 := Keep.refl h0 [this]
  refine own_s_aloadN X0.here hx (hb hby own_d1_0) rfl rfl ?_
  obtain ⟨T33, X33, e33, st33⟩ := initO X0 hx hZ hown (hw _ (List.mem_of_getElem? (i := 6) rfl)) (hw _ (List.mem_of_getElem? (i := 7) rfl)) (hw _ (List.mem_of_getElem? (i := 8) rfl)) e0 (g := (mkF m 1 #[.val (.ref this), .val (.int p1)] [(.ref this)])) rfl (by rw [hml]; rfl) rfl (hb hby own_d1_1) (by decide) (W := 0) (by show 2 * 0 + _ ≤ _; exact Nat.le_of_eq rfl) (by decide)
  refine own_by st33 ?_
  show own_Go p e below T33 (mkF m 4 #[.val (.ref this), .val (.int p1)] []) _
  refine own_s_aloadN X33.here hx (hb hby own_d1_4) rfl rfl ?_
  refine own_s_iloadN X33.here hx (hb hby own_d1_5) rfl ?_
  obtain ⟨T34, h34, k34, X34, e34, E34, A34, st34⟩ := newP X33 hx hZ (hw _ (List.mem_of_getElem? (i := 9) rfl)) e33 (g := (mkF m 6 #[.val (.ref this), .val (.int p1)] [(.int p1), (.ref this)])) rfl (hb hby own_d1_6) rfl hneg (cap := 4) (by rw [hn]; exact hle) (by decide) (by decide) (by decide)
  obtain ⟨b34, g34⟩ : ∃ z, z = h0.size := ⟨_, rfl⟩
  rw [← g34] at A34 st34
  have ge_b34 : n0 ≤ b34 := Nat.le_trans Z0 (Nat.le_of_eq g34.symm)
  have sz_b34 : h0.size ≤ b34 := Nat.le_trans K0.1 (Nat.le_of_eq g34.symm)
  have ne_this_b34 : this ≠ b34 := Nat.ne_of_lt (Nat.lt_of_lt_of_le E_this.lt (Nat.le_of_eq g34.symm))
  have f35 := E_this.ext E34
  have f36 := F_this_failed.ext E34
  have f37 := F_this_slow.ext E34
  have f38 := F_this_calls.ext E34
  have f39 := F_this_failures.ext E34
  have f40 := F_this_slowCalls.ext E34
  have f41 := F_this_next.ext E34
  have SZ34 : n0 ≤ h34.size := Nat.le_trans Z0 E34.1
  have K34 := K0.ext E34
  have f42 : own_Av Z h34 b34 .boolean n (fun _ => (.int (0 : Int32))) := own_Av.ofnew A34 hn rfl
  refine own_by st34 ?_
  show own_Go p e below T34 (mkF m 8 #[.val (.ref this), .val (.int p1)] [(.ref b34), (.ref this)]) _
  obtain ⟨T43, h43, X43, e43, W43, st43⟩ := putF X34 hx hZ hown (host := "") (Or.inl (hw _ (List.mem_of_getElem? (i := 10) rfl))) Via.refl e34 f36 f35 (Or.inr ⟨(hw _ (List.mem_of_getElem? (i := 11) rfl)), rfl, hnm⟩) (hw _ (List.mem_of_getElem? (i := 1) rfl)) (ty := (.array .boolean)) (by decide) rfl rfl (g := (mkF m 8 #[.val (.ref this), .val (.int p1)] [(.ref b34), (.ref this)])) rfl rfl (hb hby own_d1_8)
  have fw43 := f36.same W43
  have f44 := f35.wr W43
  have f45 := f37.other W43 (Or.inr (slot_ne (Or.inr (hw _ (List.mem_of_getElem? (i := 13) rfl))) (Or.inr (hw _ (List.mem_of_getElem? (i := 11) rfl))) (by decide) (t := (.array .boolean)) (t' := (.array .boolean)) (by decide) (by decide)))
  have f46 := f38.other W43 (Or.inr (slot_ne (Or.inl (hw _ (List.mem_of_getElem? (i := 24) rfl))) (Or.inr (hw _ (List.mem_of_getElem? (i := 11) rfl))) (by decide) (t := .int) (t' := (.array .boolean)) (by decide) (by decide)))
  have f47 := f39.other W43 (Or.inr (slot_ne (Or.inl (hw _ (List.mem_of_getElem? (i := 28) rfl))) (Or.inr (hw _ (List.mem_of_getElem? (i := 11) rfl))) (by decide) (t := .int) (t' := (.array .boolean)) (by decide) (by decide)))
  have f48 := f40.other W43 (Or.inr (slot_ne (Or.inl (hw _ (List.mem_of_getElem? (i := 30) rfl))) (Or.inr (hw _ (List.mem_of_getElem? (i := 11) rfl))) (by decide) (t := .int) (t' := (.array .boolean)) (by decide) (by decide)))
  have f49 := f41.other W43 (Or.inr (slot_ne (Or.inl (hw _ (List.mem_of_getElem? (i := 26) rfl))) (Or.inr (hw _ (List.mem_of_getElem? (i := 11) rfl))) (by decide) (t := .int) (t' := (.array .boolean)) (by decide) (by decide)))
  have f50 := f42.other W43 (Ne.symm ne_this_b34)
  have N43 := Fr.snoc X43 N0 ge_this
  have SZ43 : n0 ≤ h43.size := by rw [W43.size]; exact SZ34
  have K43 := K34.wr W43 (Or.inl (List.mem_of_getElem? (i := 0) rfl))
  refine own_by st43 ?_
  show own_Go p e below T43 (mkF m 11 #[.val (.ref this), .val (.int p1)] []) _
  refine own_s_aloadN X43.here hx (hb hby own_d1_11) rfl rfl ?_
  refine own_s_iloadN X43.here hx (hb hby own_d1_12) rfl ?_
  obtain ⟨T51, h51, k51, X51, e51, E51, A51, st51⟩ := newP X43 hx hZ (hw _ (List.mem_of_getElem? (i := 9) rfl)) e43 (g := (mkF m 13 #[.val (.ref this), .val (.int p1)] [(.int p1), (.ref this)])) rfl (hb hby own_d1_13) rfl hneg (cap := 4) (by rw [hn]; exact hle) (by decide) (by decide) (by decide)
  obtain ⟨b51, g51⟩ : ∃ z, z = h43.size := ⟨_, rfl⟩
  rw [← g51] at A51 st51
  have ge_b51 : n0 ≤ b51 := Nat.le_trans SZ43 (Nat.le_of_eq g51.symm)
  have sz_b51 : h0.size ≤ b51 := Nat.le_trans K43.1 (Nat.le_of_eq g51.symm)
  have ne_this_b51 : this ≠ b51 := Nat.ne_of_lt (Nat.lt_of_lt_of_le f44.lt (Nat.le_of_eq g51.symm))
  have ne_b34_b51 : b34 ≠ b51 := Nat.ne_of_lt (Nat.lt_of_lt_of_le f50.lt (Nat.le_of_eq g51.symm))
  have f52 := f44.ext E51
  have f53 := fw43.ext E51
  have f54 := f45.ext E51
  have f55 := f46.ext E51
  have f56 := f47.ext E51
  have f57 := f48.ext E51
  have f58 := f49.ext E51
  have f59 := f50.ext E51
  have SZ51 : n0 ≤ h51.size := Nat.le_trans SZ43 E51.1
  have K51 := K43.ext E51
  have f60 : own_Av Z h51 b51 .boolean n (fun _ => (.int (0 : Int32))) := own_Av.ofnew A51 hn rfl
  refine own_by st51 ?_
  show own_Go p e below T51 (mkF m 15 #[.val (.ref this), .val (.int p1)] [(.ref b51), (.ref this)]) _
  obtain ⟨T61, h61, X61, e61, W61, st61⟩ := putF X51 hx hZ hown (host := "") (Or.inl (hw _ (List.mem_of_getElem? (i := 12) rfl))) Via.refl e51 f54 f52 (Or.inr ⟨(hw _ (List.mem_of_getElem? (i := 13) rfl)), rfl, hnm⟩) (hw _ (List.mem_of_getElem? (i := 1) rfl)) (ty := (.array .boolean)) (by decide) rfl rfl (g := (mkF m 15 #[.val (.ref this), .val (.int p1)] [(.ref b51), (.ref this)])) rfl rfl (hb hby own_d1_15)
  have fw61 := f54.same W61
  have f62 := f52.wr W61
  have f63 := f53.other W61 (Or.inr (slot_ne (Or.inr (hw _ (List.mem_of_getElem? (i := 11) rfl))) (Or.inr (hw _ (List.mem_of_getElem? (i := 13) rfl))) (by decide) (t := (.array .boolean)) (t' := (.array .boolean)) (by decide) (by decide)))
  have f64 := f55.other W61 (Or.inr (slot_ne (Or.inl (hw _ (List.mem_of_getElem? (i := 24) rfl))) (Or.inr (hw _ (List.mem_of_getElem? (i := 13) rfl))) (by decide) (t := .int) (t' := (.array .boolean)) (by decide) (by decide)))
  have f65 := f56.other W61 (Or.inr (slot_ne (Or.inl (hw _ (List.mem_of_getElem? (i := 28) rfl))) (Or.inr (hw _ (List.mem_of_getElem? (i := 13) rfl))) (by decide) (t := .int) (t' := (.array .boolean)) (by decide) (by decide)))
  have f66 := f57.other W61 (Or.inr (slot_ne (Or.inl (hw _ (List.mem_of_getElem? (i := 30) rfl))) (Or.inr (hw _ (List.mem_of_getElem? (i := 13) rfl))) (by decide) (t := .int) (t' := (.array .boolean)) (by decide) (by decide)))
  have f67 := f58.other W61 (Or.inr (slot_ne (Or.inl (hw _ (List.mem_of_getElem? (i := 26) rfl))) (Or.inr (hw _ (List.mem_of_getElem? (i := 13) rfl))) (by decide) (t := .int) (t' := (.array .boolean)) (by decide) (by decide)))
  have f68 := f59.other W61 (Ne.symm ne_this_b34)
  have f69 := f60.other W61 (Ne.symm ne_this_b51)
  have N61 := Fr.snoc X61 N43 ge_this
  have SZ61 : n0 ≤ h61.size := by rw [W61.size]; exact SZ51
  have K61 := K51.wr W61 (Or.inl (List.mem_of_getElem? (i := 0) rfl))
  refine own_by st61 ?_
  show own_Go p e below T61 (mkF m 18 #[.val (.ref this), .val (.int p1)] []) _
  refine own_retV X61 hx hret hlk (hb hby own_d1_18) (by decide) (by decide) ?_
  rw [e61]
  exact ⟨rfl, N61, K61, b34, b51, ge_b34, ge_b51, ne_this_b34, ne_this_b51, ne_b34_b51, f63, fw61, f64, f65, f66, f67, f68, f69⟩
def own_f3 (u0 : Int32) (u1 : Int32) : Int32 := (if ((u0 >>> (u1 &&& 31)) &&& (1 : Int32)) = 0 then (0 : Int32) else (1 : Int32))
theorem own_d3_0 : decode method_3_code 0 = .ok (.iload_n 0, 1) := by decide +kernel
theorem own_d3_1 : decode method_3_code 1 = .ok (.iload_n 1, 1) := by decide +kernel
theorem own_d3_2 : decode method_3_code 2 = .ok (.ishr, 1) := by decide +kernel
theorem own_d3_3 : decode method_3_code 3 = .ok (.iconst 1, 1) := by decide +kernel
theorem own_d3_4 : decode method_3_code 4 = .ok (.iand, 1) := by decide +kernel
theorem own_d3_5 : decode method_3_code 5 = .ok (.ifCond .eq 7, 3) := by decide +kernel
theorem own_d3_8 : decode method_3_code 8 = .ok (.iconst 1, 1) := by decide +kernel
theorem own_d3_9 : decode method_3_code 9 = .ok (.goto 4, 3) := by decide +kernel
theorem own_d3_12 : decode method_3_code 12 = .ok (.iconst 0, 1) := by decide +kernel
theorem own_d3_13 : decode method_3_code 13 = .ok (.ireturn, 1) := by decide +kernel
theorem own_pn_CountWindowRecordPinLaw : plainName "com/example/fairlead/fairlead/policy/CountWindowRecordPinLaw" = true := by first | (simp [plainName, overriddenIn]; done) | decide +kernel
theorem own_ef3 (m : MethodId) (u0 : Int32) (u1 : Int32) : entryFrame m #[(.int u0), (.int u1)] 2 = mkF m 0 #[.val (.int u0), .val (.int u1)] [] := by first | (simp [entryFrame, mkF, argsToLocals, Value.category]; done) | rfl
def own_q_own_r3 (Z : State) (u0 : Int32) (u1 : Int32) (h0 : Heap) (n0 : Nat) (v : Option Value) (h : Heap) (L : List Loc) : Prop := v = some (.int (own_f3 u0 u1)) ∧ Fr n0 L ∧ h = h0
set_option maxRecDepth 65536 in
set_option maxHeartbeats 40000000 in
theorem own_r3 (l : Launch) (Z : State) (a0 : Array Value) (hw : ∀ d ∈ tables_1, d.before a0 Z = true) (ws : List Jvm.Cond) (u0 : Int32) (u1 : Int32) (h0 : Heap) (n0 : Nat) (Z0 : n0 ≤ h0.size) :
    MetFree l (⟨"com/example/fairlead/fairlead/policy/CountWindowRecordPinLaw", "bit", "(II)Z"⟩ : MethodName) (head1 (Jvm.Cond.code (⟨"com/example/fairlead/fairlead/policy/CountWindowRecordPinLaw", "bit", "(II)Z"⟩ : MethodName) method_3_code 2 (some .boolean) :: ws) ({ frames := 0, cells := 0, slots := 0, locals := 0 } : Room)) (fun a U => a = #[(.int u0), (.int u1)] ∧ Z.Warmed39 U.vm ∧ U.heap = h0) (fun _ _ _ _ _ => True) (fun _ U o U' => ∃ v L, o = .returned v ∧ own_q_own_r3 Z u0 u1 h0 n0 v U'.heap L ∧ FrameEnd U o U' L ({ frames := 0, cells := 0, slots := 0, locals := 0 } : Room).cells ({ frames := 0, cells := 0, slots := 0, locals := 0 } : Room).slots) := by
  refine MetFree.of_bodySF (plainFor_of_name own_pn_CountWindowRecordPinLaw) hisR ?_
  intro p e s m args below meth c T0 Bd hml0 hP hK
  obtain ⟨rfl, hZ, hh⟩ := hP
  have hx := Bd.exec
  have hby := Bd.bytes
  have hml : c.maxLocals = 2 := hml0
  have hown : s.vm.findClass "com/example/fairlead/fairlead/policy/CountWindowRecordPinLaw" = some m.cls := findClass_of_methodNamed Bd.named
  have hnm := (name_of_methodNamed Bd.named Bd.method).1
  have hret : meth.sig.returnType = (some .boolean) := Bd.returns
  have hlk : meth.locks = false := BodyLoose.notSynchronized Bd
  have X0 : Stand p l e ({ frames := 0, cells := 0, slots := 0, locals := 0 } : Room) s m #[(.int u0), (.int u1)] below meth c T0 [] 0 0 := Stand.of_body Bd
  have e0 : T0.heap = h0 := by rw [← hh, Bd.state]; rfl
  have N0 := Fr.nil n0
  refine own_start (own_ef3 m u0 u1) (Q := fun (v : Option Value) (h : Heap) (L : List Loc) => v = some (.int (own_f3 u0 u1)) ∧ Fr n0 L ∧ h = h0) (k := 0) (j := 0) ?_
  show own_Go p e below T0 (mkF m 0 #[.val (.int u0), .val (.int u1)] []) _
  refine own_s_iloadN X0.here hx (hb hby own_d3_0) rfl ?_
  refine own_s_iloadN X0.here hx (hb hby own_d3_1) rfl ?_
  refine own_s_ishr X0.here hx (hb hby own_d3_2) ?_
  refine own_s_iconst X0.here hx (1 : Int32) (hb hby own_d3_3) rfl ?_
  refine own_s_iand X0.here hx (hb hby own_d3_4) ?_
  by_cases hc5 : ((u0 >>> (u1 &&& 31)) &&& (1 : Int32)) = 0
  ·
    show own_Go p e below T0 (mkF m 5 #[.val (.int u0), .val (.int u1)] [(.int ((u0 >>> (u1 &&& 31)) &&& (1 : Int32)))]) _
    refine own_s_ifYes X0.here hx 12 (hb hby own_d3_5) (Jvm.Free.XT.i0_eq_t hc5) (by decide) (by decide) ?_
    refine own_s_iconst X0.here hx (0 : Int32) (hb hby own_d3_12) rfl ?_
    refine own_retZ X0 hx hret hlk (hb hby own_d3_13) rfl (by decide) (by decide) ?_
    exact ⟨by unfold own_f3; rw [if_pos hc5], N0, e0⟩
  ·
    refine own_s_ifNo X0.here hx (hb hby own_d3_5) (Jvm.Free.XT.i0_eq_f hc5) ?_
    refine own_s_iconst X0.here hx (1 : Int32) (hb hby own_d3_8) rfl ?_
    show own_Go p e below T0 (mkF m 9 #[.val (.int u0), .val (.int u1)] [(.int (1 : Int32))]) _
    refine own_s_goto X0.here hx 13 (hb hby own_d3_9) (by decide) (by decide) ?_
    refine own_retZ X0 hx hret hlk (hb hby own_d3_13) rfl (by decide) (by decide) ?_
    exact ⟨by unfold own_f3; rw [if_neg hc5], N0, e0⟩
def own_f8 (u0 : Int32) (u1 : Int32) : Int32 := (if u1 < u0 then u1 else u0)
theorem own_d8_0 : decode jdk_29_method_69_code 0 = .ok (.iload_n 0, 1) := by decide +kernel
theorem own_d8_1 : decode jdk_29_method_69_code 1 = .ok (.iload_n 1, 1) := by decide +kernel
theorem own_d8_2 : decode jdk_29_method_69_code 2 = .ok (.if_icmp .gt 7, 3) := by decide +kernel
theorem own_d8_5 : decode jdk_29_method_69_code 5 = .ok (.iload_n 0, 1) := by decide +kernel
theorem own_d8_6 : decode jdk_29_method_69_code 6 = .ok (.goto 4, 3) := by decide +kernel
theorem own_d8_9 : decode jdk_29_method_69_code 9 = .ok (.iload_n 1, 1) := by decide +kernel
theorem own_d8_10 : decode jdk_29_method_69_code 10 = .ok (.ireturn, 1) := by decide +kernel
theorem own_ef8 (m : MethodId) (u0 : Int32) (u1 : Int32) : entryFrame m #[(.int u0), (.int u1)] 2 = mkF m 0 #[.val (.int u0), .val (.int u1)] [] := by first | (simp [entryFrame, mkF, argsToLocals, Value.category]; done) | rfl
def own_q_own_r8 (Z : State) (u0 : Int32) (u1 : Int32) (h0 : Heap) (n0 : Nat) (v : Option Value) (h : Heap) (L : List Loc) : Prop := v = some (.int (own_f8 u0 u1)) ∧ Fr n0 L ∧ h = h0
set_option maxRecDepth 65536 in
set_option maxHeartbeats 40000000 in
theorem own_r8 (l : Launch) (Z : State) (a0 : Array Value) (hw : ∀ d ∈ tables_1, d.before a0 Z = true) (ws : List Jvm.Cond) (u0 : Int32) (u1 : Int32) (h0 : Heap) (n0 : Nat) (Z0 : n0 ≤ h0.size) :
    MetFree l (⟨"java/lang/Math", "min", "(II)I"⟩ : MethodName) (head1 (Jvm.Cond.code (⟨"java/lang/Math", "min", "(II)I"⟩ : MethodName) jdk_29_method_69_code 2 (some .int) :: ws) ({ frames := 0, cells := 0, slots := 0, locals := 0 } : Room)) (fun a U => a = #[(.int u0), (.int u1)] ∧ Z.Warmed39 U.vm ∧ U.heap = h0) (fun _ _ _ _ _ => True) (fun _ U o U' => ∃ v L, o = .returned v ∧ own_q_own_r8 Z u0 u1 h0 n0 v U'.heap L ∧ FrameEnd U o U' L ({ frames := 0, cells := 0, slots := 0, locals := 0 } : Room).cells ({ frames := 0, cells := 0, slots := 0, locals := 0 } : Room).slots) := by
  refine MetFree.of_bodySF (Jvm.Free.JP.mathPlain rfl (by decide +kernel)) hisR ?_
  intro p e s m args below meth c T0 Bd hml0 hP hK
  obtain ⟨rfl, hZ, hh⟩ := hP
  have hx := Bd.exec
  have hby := Bd.bytes
  have hml : c.maxLocals = 2 := hml0
  have hown : s.vm.findClass "java/lang/Math" = some m.cls := findClass_of_methodNamed Bd.named
  have hnm := (name_of_methodNamed Bd.named Bd.method).1
  have hret : meth.sig.returnType = (some .int) := Bd.returns
  have hlk : meth.locks = false := BodyLoose.notSynchronized Bd
  have X0 : Stand p l e ({ frames := 0, cells := 0, slots := 0, locals := 0 } : Room) s m #[(.int u0), (.int u1)] below meth c T0 [] 0 0 := Stand.of_body Bd
  have e0 : T0.heap = h0 := by rw [← hh, Bd.state]; rfl
  have N0 := Fr.nil n0
  refine own_start (own_ef8 m u0 u1) (Q := fun (v : Option Value) (h : Heap) (L : List Loc) => v = some (.int (own_f8 u0 u1)) ∧ Fr n0 L ∧ h = h0) (k := 0) (j := 0) ?_
  show own_Go p e below T0 (mkF m 0 #[.val (.int u0), .val (.int u1)] []) _
  refine own_s_iloadN X0.here hx (hb hby own_d8_0) rfl ?_
  refine own_s_iloadN X0.here hx (hb hby own_d8_1) rfl ?_
  by_cases hc2 : u1 < u0
  ·
    show own_Go p e below T0 (mkF m 2 #[.val (.int u0), .val (.int u1)] [(.int u1), (.int u0)]) _
    refine own_s_icmpYes X0.here hx 9 (hb hby own_d8_2) (Jvm.Free.XT.ii_gt_t hc2) (by decide) (by decide) ?_
    refine own_s_iloadN X0.here hx (hb hby own_d8_9) rfl ?_
    refine own_retI X0 hx hret hlk (hb hby own_d8_10) (by decide) (by decide) ?_
    exact ⟨by unfold own_f8; rw [if_pos hc2], N0, e0⟩
  ·
    refine own_s_icmpNo X0.here hx (hb hby own_d8_2) (Jvm.Free.XT.ii_gt_f hc2) ?_
    refine own_s_iloadN X0.here hx (hb hby own_d8_5) rfl ?_
    show own_Go p e below T0 (mkF m 6 #[.val (.int u0), .val (.int u1)] [(.int u0)]) _
    refine own_s_goto X0.here hx 10 (hb hby own_d8_6) (by decide) (by decide) ?_
    refine own_retI X0 hx hret hlk (hb hby own_d8_10) (by decide) (by decide) ?_
    exact ⟨by unfold own_f8; rw [if_neg hc2], N0, e0⟩
def own_f9 (u0 : Int32) (u1 : Int32) (u2 : Int32) (u3 : Int32) (u4 : Int32) : Int64 := (if u2 < u0 then (0 : Int64) else (if u2 < u1 then (if (own_f3 u3 u4) = 0 then (0 : Int64) else (1 : Int64)) else (0 : Int64)))
theorem own_d9_0 : decode method_4_code 0 = .ok (.iload_n 2, 1) := by decide +kernel
theorem own_d9_1 : decode method_4_code 1 = .ok (.iload_n 0, 1) := by decide +kernel
theorem own_d9_2 : decode method_4_code 2 = .ok (.if_icmp .lt 21, 3) := by decide +kernel
theorem own_d9_5 : decode method_4_code 5 = .ok (.iload_n 2, 1) := by decide +kernel
theorem own_d9_6 : decode method_4_code 6 = .ok (.iload_n 1, 1) := by decide +kernel
theorem own_d9_7 : decode method_4_code 7 = .ok (.if_icmp .ge 16, 3) := by decide +kernel
theorem own_d9_10 : decode method_4_code 10 = .ok (.iload_n 3, 1) := by decide +kernel
theorem own_d9_11 : decode method_4_code 11 = .ok (.iload 4, 2) := by decide +kernel
theorem own_d9_13 : decode method_4_code 13 = .ok (.invokestatic 12, 3) := by decide +kernel
theorem own_d9_16 : decode method_4_code 16 = .ok (.ifCond .eq 7, 3) := by decide +kernel
theorem own_d9_19 : decode method_4_code 19 = .ok (.lconst 1, 1) := by decide +kernel
theorem own_d9_20 : decode method_4_code 20 = .ok (.goto 4, 3) := by decide +kernel
theorem own_d9_23 : decode method_4_code 23 = .ok (.lconst 0, 1) := by decide +kernel
theorem own_d9_24 : decode method_4_code 24 = .ok (.lreturn, 1) := by decide +kernel
theorem own_ef9 (m : MethodId) (u0 : Int32) (u1 : Int32) (u2 : Int32) (u3 : Int32) (u4 : Int32) : entryFrame m #[(.int u0), (.int u1), (.int u2), (.int u3), (.int u4)] 5 = mkF m 0 #[.val (.int u0), .val (.int u1), .val (.int u2), .val (.int u3), .val (.int u4)] [] := by first | (simp [entryFrame, mkF, argsToLocals, Value.category]; done) | rfl
theorem own_pd_2 : parseMethodDescriptor "(II)Z" = some ⟨[.int, .int], some .boolean⟩ := by decide +kernel
def own_q_own_r9 (Z : State) (u0 : Int32) (u1 : Int32) (u2 : Int32) (u3 : Int32) (u4 : Int32) (h0 : Heap) (n0 : Nat) (v : Option Value) (h : Heap) (L : List Loc) : Prop := v = some (.long (own_f9 u0 u1 u2 u3 u4)) ∧ Fr n0 L ∧ h = h0
set_option maxRecDepth 65536 in
set_option maxHeartbeats 40000000 in
theorem own_r9 (l : Launch) (Z : State) (a0 : Array Value) (hw : ∀ d ∈ tables_1, d.before a0 Z = true) (ws : List Jvm.Cond) (u0 : Int32) (u1 : Int32) (u2 : Int32) (u3 : Int32) (u4 : Int32) (h0 : Heap) (n0 : Nat) (Z0 : n0 ≤ h0.size) :
    MetFree l (⟨"com/example/fairlead/fairlead/policy/CountWindowRecordPinLaw", "held", "(IIIII)J"⟩ : MethodName) (head1 (Jvm.Cond.code (⟨"com/example/fairlead/fairlead/policy/CountWindowRecordPinLaw", "held", "(IIIII)J"⟩ : MethodName) method_4_code 5 (some .long) :: ws) ({ frames := 1, cells := 0, slots := 0, locals := 13 } : Room)) (fun a U => a = #[(.int u0), (.int u1), (.int u2), (.int u3), (.int u4)] ∧ Z.Warmed39 U.vm ∧ U.heap = h0) (fun _ _ _ _ _ => True) (fun _ U o U' => ∃ v L, o = .returned v ∧ own_q_own_r9 Z u0 u1 u2 u3 u4 h0 n0 v U'.heap L ∧ FrameEnd U o U' L ({ frames := 1, cells := 0, slots := 0, locals := 13 } : Room).cells ({ frames := 1, cells := 0, slots := 0, locals := 13 } : Room).slots) := by
  refine MetFree.of_bodySF (plainFor_of_name own_pn_CountWindowRecordPinLaw) hisR ?_
  intro p e s m args below meth c T0 Bd hml0 hP hK
  obtain ⟨rfl, hZ, hh⟩ := hP
  have hx := Bd.exec
  have hby := Bd.bytes
  have hml : c.maxLocals = 5 := hml0
  have hown : s.vm.findClass "com/example/fairlead/fairlead/policy/CountWindowRecordPinLaw" = some m.cls := findClass_of_methodNamed Bd.named
  have hnm := (name_of_methodNamed Bd.named Bd.method).1
  have hret : meth.sig.returnType = (some .long) := Bd.returns
  have hlk : meth.locks = false := BodyLoose.notSynchronized Bd
  have X0 : Stand p l e ({ frames := 1, cells := 0, slots := 0, locals := 13 } : Room) s m #[(.int u0), (.int u1), (.int u2), (.int u3), (.int u4)] below meth c T0 [] 0 0 := Stand.of_body Bd
  have e0 : T0.heap = h0 := by rw [← hh, Bd.state]; rfl
  have N0 := Fr.nil n0
  refine own_start (own_ef9 m u0 u1 u2 u3 u4) (Q := fun (v : Option Value) (h : Heap) (L : List Loc) => v = some (.long (own_f9 u0 u1 u2 u3 u4)) ∧ Fr n0 L ∧ h = h0) (k := 0) (j := 0) ?_
  show own_Go p e below T0 (mkF m 0 #[.val (.int u0), .val (.int u1), .val (.int u2), .val (.int u3), .val (.int u4)] []) _
  refine own_s_iloadN X0.here hx (hb hby own_d9_0) rfl ?_
  refine own_s_iloadN X0.here hx (hb hby own_d9_1) rfl ?_
  by_cases hc2 : u2 < u0
  ·
    show own_Go p e below T0 (mkF m 2 #[.val (.int u0), .val (.int u1), .val (.int u2), .val (.int u3), .val (.int u4)] [(.int u0), (.int u2)]) _
    refine own_s_icmpYes X0.here hx 23 (hb hby own_d9_2) (Jvm.Free.XT.ii_lt_t hc2) (by decide) (by decide) ?_
    refine own_s_lconst X0.here hx (0 : Int64) (hb hby own_d9_23) rfl ?_
    refine own_retJ X0 hx hret hlk (hb hby own_d9_24) (by decide) (by decide) ?_
    exact ⟨by unfold own_f9; rw [if_pos hc2], N0, e0⟩
  ·
    refine own_s_icmpNo X0.here hx (hb hby own_d9_2) (Jvm.Free.XT.ii_lt_f hc2) ?_
    refine own_s_iloadN X0.here hx (hb hby own_d9_5) rfl ?_
    refine own_s_iloadN X0.here hx (hb hby own_d9_6) rfl ?_
    by_cases hc7 : u2 < u1
    ·
      refine own_s_icmpNo X0.here hx (hb hby own_d9_7) (Jvm.Free.XT.ii_ge_f hc7) ?_
      refine own_s_iloadN X0.here hx (hb hby own_d9_10) rfl ?_
      refine own_s_iload X0.here hx (hb hby own_d9_11) rfl ?_
      obtain ⟨_, _, ⟨T70, L70, k70, n70⟩, -, X70, ⟨Lc70, hQ70, l70, y70, z70⟩, st70⟩ := Jvm.LawKit.callS X0 hx (y := (⟨"com/example/fairlead/fairlead/policy/CountWindowRecordPinLaw", "bit", "(II)Z"⟩ : MethodName)) hown (mvT hZ (hw _ (List.mem_of_getElem? (i := 14) rfl))) (mvT hZ (hw _ (List.mem_of_getElem? (i := 15) rfl))) (mvT hZ (hw _ (List.mem_of_getElem? (i := 16) rfl))) (mvT hZ (hw _ (List.mem_of_getElem? (i := 17) rfl))) (by decide) (backOf (W := 0) (own_r3 l Z a0 hw [] u3 u4  h0 n0 Z0 ) hZ (hw _ (List.mem_of_getElem? (i := 17) rfl)) (hw _ (List.mem_of_getElem? (i := 16) rfl)) (by decide) (by decide)) (g := (mkF m 13 #[.val (.int u0), .val (.int u1), .val (.int u2), .val (.int u3), .val (.int u4)] [(.int u4), (.int u3)])) rfl (by rw [hml]; rfl) (argsL := [(.int u3), (.int u4)]) (rest := []) (lenOf own_pd_2 rfl) rfl (by show 2 * 0 + _ ≤ _; exact Nat.le_of_eq rfl) (hb hby own_d9_13) (fun _ _ => ⟨rfl, e0, (by decide : 0 + 0 ≤ _), (by decide : 0 + 0 ≤ _)⟩)
      dsimp only [Pt.U, Pt.locs, Pt.cells, Pt.slots] at X70 l70 y70 z70 st70 hQ70
      subst l70 y70 z70
      obtain ⟨rfl, N70q, e70⟩ := hQ70
      have N70 := Fr.app N0 N70q
      refine own_by st70 ?_
      show own_Go p e below T70 (mkF m 16 #[.val (.int u0), .val (.int u1), .val (.int u2), .val (.int u3), .val (.int u4)] [(.int (own_f3 u3 u4))]) _
      by_cases hc16 : (own_f3 u3 u4) = 0
      ·
        refine own_s_ifYes X70.here hx 23 (hb hby own_d9_16) (Jvm.Free.XT.i0_eq_t hc16) (by decide) (by decide) ?_
        refine own_s_lconst X70.here hx (0 : Int64) (hb hby own_d9_23) rfl ?_
        refine own_retJ X70 hx hret hlk (hb hby own_d9_24) (by decide) (by decide) ?_
        exact ⟨by unfold own_f9; rw [if_neg hc2, if_pos hc7, if_pos hc16], N70, e70⟩
      ·
        refine own_s_ifNo X70.here hx (hb hby own_d9_16) (Jvm.Free.XT.i0_eq_f hc16) ?_
        refine own_s_lconst X70.here hx (1 : Int64) (hb hby own_d9_19) rfl ?_
        show own_Go p e below T70 (mkF m 20 #[.val (.int u0), .val (.int u1), .val (.int u2), .val (.int u3), .val (.int u4)] [(.long (1 : Int64))]) _
        refine own_s_goto X70.here hx 24 (hb hby own_d9_20) (by decide) (by decide) ?_
        refine own_retJ X70 hx hret hlk (hb hby own_d9_24) (by decide) (by decide) ?_
        exact ⟨by unfold own_f9; rw [if_neg hc2, if_pos hc7, if_neg hc16], N70, e70⟩
    ·
      show own_Go p e below T0 (mkF m 7 #[.val (.int u0), .val (.int u1), .val (.int u2), .val (.int u3), .val (.int u4)] [(.int u1), (.int u2)]) _
      refine own_s_icmpYes X0.here hx 23 (hb hby own_d9_7) (Jvm.Free.XT.ii_ge_t hc7) (by decide) (by decide) ?_
      refine own_s_lconst X0.here hx (0 : Int64) (hb hby own_d9_23) rfl ?_
      refine own_retJ X0 hx hret hlk (hb hby own_d9_24) (by decide) (by decide) ?_
      exact ⟨by unfold own_f9; rw [if_neg hc2, if_neg hc7], N0, e0⟩
def own_nx (x z : Int32) : Int32 := if (x + (1 : Int32)) = z then (0 : Int32) else (x + (1 : Int32))
def own_nc (c z : Int32) : Int32 := if c = z then c else (c + (1 : Int32))
def own_nf (F c z vf b : Int32) : Int32 := (if c = z then (F - vf) else F) + b
theorem own_and1 {b : Int32} (h : b = 0 ∨ b = 1) : b &&& 1 = b := by rcases h with rfl | rfl <;> decide
theorem own_d4_0 : decode prog_24_method_2_code 0 = .ok (.aload_n 0, 1) := by decide +kernel
theorem own_d4_1 : decode prog_24_method_2_code 1 = .ok (.getfield 16, 3) := by decide +kernel
theorem own_d4_4 : decode prog_24_method_2_code 4 = .ok (.aload_n 0, 1) := by decide +kernel
theorem own_d4_5 : decode prog_24_method_2_code 5 = .ok (.getfield 7, 3) := by decide +kernel
theorem own_d4_8 : decode prog_24_method_2_code 8 = .ok (.arraylength, 1) := by decide +kernel
theorem own_d4_9 : decode prog_24_method_2_code 9 = .ok (.if_icmp .ne 58, 3) := by decide +kernel
theorem own_d4_12 : decode prog_24_method_2_code 12 = .ok (.aload_n 0, 1) := by decide +kernel
theorem own_d4_13 : decode prog_24_method_2_code 13 = .ok (.dup, 1) := by decide +kernel
theorem own_d4_14 : decode prog_24_method_2_code 14 = .ok (.getfield 20, 3) := by decide +kernel
theorem own_d4_17 : decode prog_24_method_2_code 17 = .ok (.aload_n 0, 1) := by decide +kernel
theorem own_d4_18 : decode prog_24_method_2_code 18 = .ok (.getfield 7, 3) := by decide +kernel
theorem own_d4_21 : decode prog_24_method_2_code 21 = .ok (.aload_n 0, 1) := by decide +kernel
theorem own_d4_22 : decode prog_24_method_2_code 22 = .ok (.getfield 23, 3) := by decide +kernel
theorem own_d4_25 : decode prog_24_method_2_code 25 = .ok (.baload, 1) := by decide +kernel
theorem own_d4_26 : decode prog_24_method_2_code 26 = .ok (.ifCond .eq 7, 3) := by decide +kernel
theorem own_d4_29 : decode prog_24_method_2_code 29 = .ok (.iconst 1, 1) := by decide +kernel
theorem own_d4_30 : decode prog_24_method_2_code 30 = .ok (.goto 4, 3) := by decide +kernel
theorem own_d4_33 : decode prog_24_method_2_code 33 = .ok (.iconst 0, 1) := by decide +kernel
theorem own_d4_34 : decode prog_24_method_2_code 34 = .ok (.isub, 1) := by decide +kernel
theorem own_d4_35 : decode prog_24_method_2_code 35 = .ok (.putfield 20, 3) := by decide +kernel
theorem own_d4_38 : decode prog_24_method_2_code 38 = .ok (.aload_n 0, 1) := by decide +kernel
theorem own_d4_39 : decode prog_24_method_2_code 39 = .ok (.dup, 1) := by decide +kernel
theorem own_d4_40 : decode prog_24_method_2_code 40 = .ok (.getfield 26, 3) := by decide +kernel
theorem own_d4_43 : decode prog_24_method_2_code 43 = .ok (.aload_n 0, 1) := by decide +kernel
theorem own_d4_44 : decode prog_24_method_2_code 44 = .ok (.getfield 13, 3) := by decide +kernel
theorem own_d4_47 : decode prog_24_method_2_code 47 = .ok (.aload_n 0, 1) := by decide +kernel
theorem own_d4_48 : decode prog_24_method_2_code 48 = .ok (.getfield 23, 3) := by decide +kernel
theorem own_d4_51 : decode prog_24_method_2_code 51 = .ok (.baload, 1) := by decide +kernel
theorem own_d4_52 : decode prog_24_method_2_code 52 = .ok (.ifCond .eq 7, 3) := by decide +kernel
theorem own_d4_55 : decode prog_24_method_2_code 55 = .ok (.iconst 1, 1) := by decide +kernel
theorem own_d4_56 : decode prog_24_method_2_code 56 = .ok (.goto 4, 3) := by decide +kernel
theorem own_d4_59 : decode prog_24_method_2_code 59 = .ok (.iconst 0, 1) := by decide +kernel
theorem own_d4_60 : decode prog_24_method_2_code 60 = .ok (.isub, 1) := by decide +kernel
theorem own_d4_61 : decode prog_24_method_2_code 61 = .ok (.putfield 26, 3) := by decide +kernel
theorem own_d4_64 : decode prog_24_method_2_code 64 = .ok (.goto 13, 3) := by decide +kernel
theorem own_d4_67 : decode prog_24_method_2_code 67 = .ok (.aload_n 0, 1) := by decide +kernel
theorem own_d4_68 : decode prog_24_method_2_code 68 = .ok (.dup, 1) := by decide +kernel
theorem own_d4_69 : decode prog_24_method_2_code 69 = .ok (.getfield 16, 3) := by decide +kernel
theorem own_d4_72 : decode prog_24_method_2_code 72 = .ok (.iconst 1, 1) := by decide +kernel
theorem own_d4_73 : decode prog_24_method_2_code 73 = .ok (.iadd, 1) := by decide +kernel
theorem own_d4_74 : decode prog_24_method_2_code 74 = .ok (.putfield 16, 3) := by decide +kernel
theorem own_d4_77 : decode prog_24_method_2_code 77 = .ok (.aload_n 0, 1) := by decide +kernel
theorem own_d4_78 : decode prog_24_method_2_code 78 = .ok (.getfield 7, 3) := by decide +kernel
theorem own_d4_81 : decode prog_24_method_2_code 81 = .ok (.aload_n 0, 1) := by decide +kernel
theorem own_d4_82 : decode prog_24_method_2_code 82 = .ok (.getfield 23, 3) := by decide +kernel
theorem own_d4_85 : decode prog_24_method_2_code 85 = .ok (.iload_n 3, 1) := by decide +kernel
theorem own_d4_86 : decode prog_24_method_2_code 86 = .ok (.bastore, 1) := by decide +kernel
theorem own_d4_87 : decode prog_24_method_2_code 87 = .ok (.aload_n 0, 1) := by decide +kernel
theorem own_d4_88 : decode prog_24_method_2_code 88 = .ok (.getfield 13, 3) := by decide +kernel
theorem own_d4_91 : decode prog_24_method_2_code 91 = .ok (.aload_n 0, 1) := by decide +kernel
theorem own_d4_92 : decode prog_24_method_2_code 92 = .ok (.getfield 23, 3) := by decide +kernel
theorem own_d4_95 : decode prog_24_method_2_code 95 = .ok (.iload 4, 2) := by decide +kernel
theorem own_d4_97 : decode prog_24_method_2_code 97 = .ok (.bastore, 1) := by decide +kernel
theorem own_d4_98 : decode prog_24_method_2_code 98 = .ok (.aload_n 0, 1) := by decide +kernel
theorem own_d4_99 : decode prog_24_method_2_code 99 = .ok (.dup, 1) := by decide +kernel
theorem own_d4_100 : decode prog_24_method_2_code 100 = .ok (.getfield 20, 3) := by decide +kernel
theorem own_d4_103 : decode prog_24_method_2_code 103 = .ok (.iload_n 3, 1) := by decide +kernel
theorem own_d4_104 : decode prog_24_method_2_code 104 = .ok (.ifCond .eq 7, 3) := by decide +kernel
theorem own_d4_107 : decode prog_24_method_2_code 107 = .ok (.iconst 1, 1) := by decide +kernel
theorem own_d4_108 : decode prog_24_method_2_code 108 = .ok (.goto 4, 3) := by decide +kernel
theorem own_d4_111 : decode prog_24_method_2_code 111 = .ok (.iconst 0, 1) := by decide +kernel
theorem own_d4_112 : decode prog_24_method_2_code 112 = .ok (.iadd, 1) := by decide +kernel
theorem own_d4_113 : decode prog_24_method_2_code 113 = .ok (.putfield 20, 3) := by decide +kernel
theorem own_d4_116 : decode prog_24_method_2_code 116 = .ok (.aload_n 0, 1) := by decide +kernel
theorem own_d4_117 : decode prog_24_method_2_code 117 = .ok (.dup, 1) := by decide +kernel
theorem own_d4_118 : decode prog_24_method_2_code 118 = .ok (.getfield 26, 3) := by decide +kernel
theorem own_d4_121 : decode prog_24_method_2_code 121 = .ok (.iload 4, 2) := by decide +kernel
theorem own_d4_123 : decode prog_24_method_2_code 123 = .ok (.ifCond .eq 7, 3) := by decide +kernel
theorem own_d4_126 : decode prog_24_method_2_code 126 = .ok (.iconst 1, 1) := by decide +kernel
theorem own_d4_127 : decode prog_24_method_2_code 127 = .ok (.goto 4, 3) := by decide +kernel
theorem own_d4_130 : decode prog_24_method_2_code 130 = .ok (.iconst 0, 1) := by decide +kernel
theorem own_d4_131 : decode prog_24_method_2_code 131 = .ok (.iadd, 1) := by decide +kernel
theorem own_d4_132 : decode prog_24_method_2_code 132 = .ok (.putfield 26, 3) := by decide +kernel
theorem own_d4_135 : decode prog_24_method_2_code 135 = .ok (.aload_n 0, 1) := by decide +kernel
theorem own_d4_136 : decode prog_24_method_2_code 136 = .ok (.aload_n 0, 1) := by decide +kernel
theorem own_d4_137 : decode prog_24_method_2_code 137 = .ok (.getfield 23, 3) := by decide +kernel
theorem own_d4_140 : decode prog_24_method_2_code 140 = .ok (.iconst 1, 1) := by decide +kernel
theorem own_d4_141 : decode prog_24_method_2_code 141 = .ok (.iadd, 1) := by decide +kernel
theorem own_d4_142 : decode prog_24_method_2_code 142 = .ok (.aload_n 0, 1) := by decide +kernel
theorem own_d4_143 : decode prog_24_method_2_code 143 = .ok (.getfield 7, 3) := by decide +kernel
theorem own_d4_146 : decode prog_24_method_2_code 146 = .ok (.arraylength, 1) := by decide +kernel
theorem own_d4_147 : decode prog_24_method_2_code 147 = .ok (.if_icmp .ne 7, 3) := by decide +kernel
theorem own_d4_150 : decode prog_24_method_2_code 150 = .ok (.iconst 0, 1) := by decide +kernel
theorem own_d4_151 : decode prog_24_method_2_code 151 = .ok (.goto 9, 3) := by decide +kernel
theorem own_d4_154 : decode prog_24_method_2_code 154 = .ok (.aload_n 0, 1) := by decide +kernel
theorem own_d4_155 : decode prog_24_method_2_code 155 = .ok (.getfield 23, 3) := by decide +kernel
theorem own_d4_158 : decode prog_24_method_2_code 158 = .ok (.iconst 1, 1) := by decide +kernel
theorem own_d4_159 : decode prog_24_method_2_code 159 = .ok (.iadd, 1) := by decide +kernel
theorem own_d4_160 : decode prog_24_method_2_code 160 = .ok (.putfield 23, 3) := by decide +kernel
theorem own_d4_163 : decode prog_24_method_2_code 163 = .ok (.return_, 1) := by decide +kernel
theorem own_ef4 (m : MethodId) (this : Addr) (q1 : Int64) (b3 : Int32) (b4 : Int32) : entryFrame m #[(.ref this), (.long q1), (.int b3), (.int b4)] 5 = mkF m 0 #[.val (.ref this), .val (.long q1), .second, .val (.int b3), .val (.int b4)] [] := by first | (simp [entryFrame, mkF, argsToLocals, Value.category]; done) | rfl
def own_q_own_r4 (Z : State) (this : Addr) (q1 : Int64) (b3 : Int32) (b4 : Int32) (fa sa : Addr) (c_ F_ S_ x_ z vf vs : Int32) (n x : Nat) (f f' : Nat → Value) (h0 : Heap) (n0 : Nat) (v : Option Value) (h : Heap) (L : List Loc) : Prop := v = none ∧ Fr n0 L ∧ Keep h0 h [this, fa, sa] ∧ Fld Z h this "com/example/fairlead/fairlead/policy/CountWindow" "failed" "[Z" (.ref fa) ∧ Fld Z h this "com/example/fairlead/fairlead/policy/CountWindow" "slow" "[Z" (.ref sa) ∧ Fld Z h this "com/example/fairlead/fairlead/policy/CountWindow" "calls" "I" (.int (own_nc c_ z)) ∧ Fld Z h this "com/example/fairlead/fairlead/policy/CountWindow" "failures" "I" (.int (own_nf F_ c_ z vf b3)) ∧ Fld Z h this "com/example/fairlead/fairlead/policy/CountWindow" "slowCalls" "I" (.int (own_nf S_ c_ z vs b4)) ∧ Fld Z h this "com/example/fairlead/fairlead/policy/CountWindow" "next" "I" (.int (own_nx x_ z)) ∧ own_Av Z h fa .boolean n (own_upd f x (.int b3)) ∧ own_Av Z h sa .boolean n (own_upd f' x (.int b4))
set_option maxRecDepth 65536 in
set_option maxHeartbeats 40000000 in
theorem own_r4 (l : Launch) (Z : State) (a0 : Array Value) (hw : ∀ d ∈ tables_1, d.before a0 Z = true) (ws : List Jvm.Cond) (this : Addr) (q1 : Int64) (b3 : Int32) (b4 : Int32) (fa sa : Addr) (c_ F_ S_ x_ z vf vs : Int32) (n x : Nat) (f f' : Nat → Value) (h0 : Heap) (n0 : Nat) (Z0 : n0 ≤ h0.size) (hz : n.toInt32 = z) (hx1 : own_At x_ x) (hx2 : x < n) (hvf : f x = .int vf) (hvs : f' x = .int vs) (hvf1 : vf = 0 ∨ vf = 1) (hvs1 : vs = 0 ∨ vs = 1) (hb3 : b3 = 0 ∨ b3 = 1) (hb4 : b4 = 0 ∨ b4 = 1) (E_this : Exa Z h0 this "com/example/fairlead/fairlead/policy/CountWindow") (F_this_failed : Fld Z h0 this "com/example/fairlead/fairlead/policy/CountWindow" "failed" "[Z" (.ref fa)) (F_this_slow : Fld Z h0 this "com/example/fairlead/fairlead/policy/CountWindow" "slow" "[Z" (.ref sa)) (F_this_calls : Fld Z h0 this "com/example/fairlead/fairlead/policy/CountWindow" "calls" "I" (.int c_)) (F_this_failures : Fld Z h0 this "com/example/fairlead/fairlead/policy/CountWindow" "failures" "I" (.int F_)) (F_this_slowCalls : Fld Z h0 this "com/example/fairlead/fairlead/policy/CountWindow" "slowCalls" "I" (.int S_)) (F_this_next : Fld Z h0 this "com/example/fairlead/fairlead/policy/CountWindow" "next" "I" (.int x_)) (ge_this : n0 ≤ this) (A_fa : own_Av Z h0 fa .boolean n f) (ge_fa : n0 ≤ fa) (A_sa : own_Av Z h0 sa .boolean n f') (ge_sa : n0 ≤ sa) (ne_this_fa : this ≠ fa) (ne_this_sa : this ≠ sa) (ne_fa_sa : fa ≠ sa) :
    MetFree l (⟨"com/example/fairlead/fairlead/policy/CountWindow", "record", "(JZZ)V"⟩ : MethodName) (head1 (Jvm.Cond.code (⟨"com/example/fairlead/fairlead/policy/CountWindow", "record", "(JZZ)V"⟩ : MethodName) prog_24_method_2_code 5 none :: ws) ({ frames := 0, cells := 0, slots := 0, locals := 0 } : Room)) (fun a U => a = #[(.ref this), (.long q1), (.int b3), (.int b4)] ∧ Z.Warmed39 U.vm ∧ U.heap = h0) (fun _ _ _ _ _ => True) (fun _ U o U' => ∃ v L, o = .returned v ∧ own_q_own_r4 Z this q1 b3 b4 fa sa c_ F_ S_ x_ z vf vs n x f f' h0 n0 v U'.heap L ∧ FrameEnd U o U' L ({ frames := 0, cells := 0, slots := 0, locals := 0 } : Room).cells ({ frames := 0, cells := 0, slots := 0, locals := 0 } : Room).slots) := by
  refine MetFree.of_bodySF (plainFor_of_name own_pn_CountWindow) hisR ?_
  intro p e s m args below meth c T0 Bd hml0 hP hK
  obtain ⟨rfl, hZ, hh⟩ := hP
  have hx := Bd.exec
  have hby := Bd.bytes
  have hml : c.maxLocals = 5 := hml0
  have hown : s.vm.findClass "com/example/fairlead/fairlead/policy/CountWindow" = some m.cls := findClass_of_methodNamed Bd.named
  have hnm := (name_of_methodNamed Bd.named Bd.method).1
  have hret : meth.sig.returnType = none := Bd.returns
  have hlk : meth.locks = false := BodyLoose.notSynchronized Bd
  have X0 : Stand p l e ({ frames := 0, cells := 0, slots := 0, locals := 0 } : Room) s m #[(.ref this), (.long q1), (.int b3), (.int b4)] below meth c T0 [] 0 0 := Stand.of_body Bd
  have e0 : T0.heap = h0 := by rw [← hh, Bd.state]; rfl
  have N0 := Fr.nil n0
  refine own_start (own_ef4 m this q1 b3 b4) (Q := fun (v : Option Value) (h : Heap) (L : List Loc) => v = none ∧ Fr n0 L ∧ Keep h0 h [this, fa, sa] ∧ Fld Z h this "com/example/fairlead/fairlead/policy/CountWindow" "failed" "[Z" (.ref fa) ∧ Fld Z h this "com/example/fairlead/fairlead/policy/CountWindow" "slow" "[Z" (.ref sa) ∧ Fld Z h this "com/example/fairlead/fairlead/policy/CountWindow" "calls" "I" (.int (own_nc c_ z)) ∧ Fld Z h this "com/example/fairlead/fairlead/policy/CountWindow" "failures" "I" (.int (own_nf F_ c_ z vf b3)) ∧ Fld Z h this "com/example/fairlead/fairlead/policy/CountWindow" "slowCalls" "I" (.int (own_nf S_ c_ z vs b4)) ∧ Fld Z h this "com/example/fairlead/fairlead/policy/CountWindow" "next" "I" (.int (own_nx x_ z)) ∧ own_Av Z h fa .boolean n (own_upd f x (.int b3)) ∧ own_Av Z h sa .boolean n (own_upd f' x (.int b4))) (k := 0) (j := 0) ?_
  show own_Go p e below T0 (mkF m 0 #[.val (.ref this), .val (.long q1), .second, .val (.int b3), .val (.int b4)] []) _
  have K0 := Keep.refl h0 [this, fa, sa]
  refine own_s_aloadN X0.here hx (hb hby own_d4_0) rfl rfl ?_
  obtain ⟨T71, X71, e71, st71⟩ := getF X0 hx hZ hown (host := "") (Or.inl (hw _ (List.mem_of_getElem? (i := 23) rfl))) Via.refl e0 F_this_calls (g := (mkF m 1 #[.val (.ref this), .val (.long q1), .second, .val (.int b3), .val (.int b4)] [(.ref this)])) rfl rfl (hb hby own_d4_1)
  refine own_by st71 ?_
  show own_Go p e below T71 (mkF m 4 #[.val (.ref this), .val (.long q1), .second, .val (.int b3), .val (.int b4)] [(.int c_)]) _
  refine own_s_aloadN X71.here hx (hb hby own_d4_4) rfl rfl ?_
  obtain ⟨T72, X72, e72, st72⟩ := getF X71 hx hZ hown (host := "") (Or.inl (hw _ (List.mem_of_getElem? (i := 10) rfl))) Via.refl e71 F_this_failed (g := (mkF m 5 #[.val (.ref this), .val (.long q1), .second, .val (.int b3), .val (.int b4)] [(.ref this), (.int c_)])) rfl rfl (hb hby own_d4_5)
  refine own_by st72 ?_
  show own_Go p e below T72 (mkF m 8 #[.val (.ref this), .val (.long q1), .second, .val (.int b3), .val (.int b4)] [(.ref fa), (.int c_)]) _
  refine own_by (fun tq_ kq_ => own_len X72 hx hZ e72 A_fa (z := z) hz (g := (mkF m 8 #[.val (.ref this), .val (.long q1), .second, .val (.int b3), .val (.int b4)] [(.ref fa), (.int c_)])) rfl rfl (hb hby own_d4_8) tq_ kq_) ?_
  show own_Go p e below T72 (mkF m 9 #[.val (.ref this), .val (.long q1), .second, .val (.int b3), .val (.int b4)] [(.int z), (.int c_)]) _
  by_cases hc9 : c_ = z
  ·
    refine own_s_icmpNo X72.here hx (hb hby own_d4_9) (Jvm.Free.XT.ii_ne_f hc9) ?_
    refine own_s_aloadN X72.here hx (hb hby own_d4_12) rfl rfl ?_
    refine own_s_dup X72.here hx (hb hby own_d4_13) rfl ?_
    obtain ⟨T73, X73, e73, st73⟩ := getF X72 hx hZ hown (host := "") (Or.inl (hw _ (List.mem_of_getElem? (i := 27) rfl))) Via.refl e72 F_this_failures (g := (mkF m 14 #[.val (.ref this), .val (.long q1), .second, .val (.int b3), .val (.int b4)] [(.ref this), (.ref this)])) rfl rfl (hb hby own_d4_14)
    refine own_by st73 ?_
    show own_Go p e below T73 (mkF m 17 #[.val (.ref this), .val (.long q1), .second, .val (.int b3), .val (.int b4)] [(.int F_), (.ref this)]) _
    refine own_s_aloadN X73.here hx (hb hby own_d4_17) rfl rfl ?_
    obtain ⟨T74, X74, e74, st74⟩ := getF X73 hx hZ hown (host := "") (Or.inl (hw _ (List.mem_of_getElem? (i := 10) rfl))) Via.refl e73 F_this_failed (g := (mkF m 18 #[.val (.ref this), .val (.long q1), .second, .val (.int b3), .val (.int b4)] [(.ref this), (.int F_), (.ref this)])) rfl rfl (hb hby own_d4_18)
    refine own_by st74 ?_
    show own_Go p e below T74 (mkF m 21 #[.val (.ref this), .val (.long q1), .second, .val (.int b3), .val (.int b4)] [(.ref fa), (.int F_), (.ref this)]) _
    refine own_s_aloadN X74.here hx (hb hby own_d4_21) rfl rfl ?_
    obtain ⟨T75, X75, e75, st75⟩ := getF X74 hx hZ hown (host := "") (Or.inl (hw _ (List.mem_of_getElem? (i := 25) rfl))) Via.refl e74 F_this_next (g := (mkF m 22 #[.val (.ref this), .val (.long q1), .second, .val (.int b3), .val (.int b4)] [(.ref this), (.ref fa), (.int F_), (.ref this)])) rfl rfl (hb hby own_d4_22)
    refine own_by st75 ?_
    show own_Go p e below T75 (mkF m 25 #[.val (.ref this), .val (.long q1), .second, .val (.int b3), .val (.int b4)] [(.int x_), (.ref fa), (.int F_), (.ref this)]) _
    refine own_by (fun tq_ kq_ => own_ldZ X75 hx hZ e75 A_fa (k := x) (v := (.int vf)) hx1 hx2 hvf (g := (mkF m 25 #[.val (.ref this), .val (.long q1), .second, .val (.int b3), .val (.int b4)] [(.int x_), (.ref fa), (.int F_), (.ref this)])) rfl rfl (hb hby own_d4_25) tq_ kq_) ?_
    show own_Go p e below T75 (mkF m 26 #[.val (.ref this), .val (.long q1), .second, .val (.int b3), .val (.int b4)] [(.int vf), (.int F_), (.ref this)]) _
    refine own_by (T' := T75) (g' := (mkF m 34 #[.val (.ref this), .val (.long q1), .second, .val (.int b3), .val (.int b4)] [(.int vf), (.int F_), (.ref this)])) (fun t k => ?_) ?_
    · rcases hvf1 with q0 | q0
      · rw [q0] at k ⊢
        refine XS.ifYes X75.here hx rfl (pc0 := 26) (pc' := 33) rfl (hb hby own_d4_26) rfl (Jvm.Free.XT.i0_eq_t rfl) (by decide) (by decide) ?_
        exact XS.iconst X75.here hx rfl (hb hby own_d4_33) k
      · rw [q0] at k ⊢
        refine XS.ifNo X75.here hx rfl (hb hby own_d4_26) rfl (Jvm.Free.XT.i0_eq_f (by decide)) ?_
        refine XS.iconst X75.here hx rfl (hb hby own_d4_29) ?_
        exact XS.goto X75.here hx rfl (pc0 := 30) (pc' := 34) rfl (hb hby own_d4_30) (by decide) (by decide) k
    show own_Go p e below T75 (mkF m 34 #[.val (.ref this), .val (.long q1), .second, .val (.int b3), .val (.int b4)] [(.int vf), (.int F_), (.ref this)]) _
    refine own_s_isub X75.here hx (hb hby own_d4_34) ?_
    obtain ⟨T76, h76, X76, e76, W76, st76⟩ := putF X75 hx hZ hown (host := "") (Or.inl (hw _ (List.mem_of_getElem? (i := 27) rfl))) Via.refl e75 F_this_failures E_this (Or.inl (hw _ (List.mem_of_getElem? (i := 28) rfl))) (hw _ (List.mem_of_getElem? (i := 1) rfl)) (ty := .int) (by decide) rfl rfl (g := (mkF m 35 #[.val (.ref this), .val (.long q1), .second, .val (.int b3), .val (.int b4)] [(.int (F_ - vf)), (.ref this)])) rfl rfl (hb hby own_d4_35)
    have fw76 := F_this_failures.same W76
    have f77 := E_this.wr W76
    have f78 := F_this_failed.other W76 (Or.inr (slot_ne (Or.inr (hw _ (List.mem_of_getElem? (i := 11) rfl))) (Or.inl (hw _ (List.mem_of_getElem? (i := 28) rfl))) (by decide) (t := (.array .boolean)) (t' := .int) (by decide) (by decide)))
    have f79 := F_this_slow.other W76 (Or.inr (slot_ne (Or.inr (hw _ (List.mem_of_getElem? (i := 13) rfl))) (Or.inl (hw _ (List.mem_of_getElem? (i := 28) rfl))) (by decide) (t := (.array .boolean)) (t' := .int) (by decide) (by decide)))
    have f80 := F_this_calls.other W76 (Or.inr (slot_ne (Or.inl (hw _ (List.mem_of_getElem? (i := 24) rfl))) (Or.inl (hw _ (List.mem_of_getElem? (i := 28) rfl))) (by decide) (t := .int) (t' := .int) (by decide) (by decide)))
    have f81 := F_this_slowCalls.other W76 (Or.inr (slot_ne (Or.inl (hw _ (List.mem_of_getElem? (i := 30) rfl))) (Or.inl (hw _ (List.mem_of_getElem? (i := 28) rfl))) (by decide) (t := .int) (t' := .int) (by decide) (by decide)))
    have f82 := F_this_next.other W76 (Or.inr (slot_ne (Or.inl (hw _ (List.mem_of_getElem? (i := 26) rfl))) (Or.inl (hw _ (List.mem_of_getElem? (i := 28) rfl))) (by decide) (t := .int) (t' := .int) (by decide) (by decide)))
    have f83 := A_fa.other W76 (Ne.symm ne_this_fa)
    have f84 := A_sa.other W76 (Ne.symm ne_this_sa)
    have N76 := Fr.snoc X76 N0 ge_this
    have SZ76 : n0 ≤ h76.size := by rw [W76.size]; exact Z0
    have K76 := K0.wr W76 (Or.inl (List.mem_of_getElem? (i := 0) rfl))
    refine own_by st76 ?_
    show own_Go p e below T76 (mkF m 38 #[.val (.ref this), .val (.long q1), .second, .val (.int b3), .val (.int b4)] []) _
    refine own_s_aloadN X76.here hx (hb hby own_d4_38) rfl rfl ?_
    refine own_s_dup X76.here hx (hb hby own_d4_39) rfl ?_
    obtain ⟨T85, X85, e85, st85⟩ := getF X76 hx hZ hown (host := "") (Or.inl (hw _ (List.mem_of_getElem? (i := 29) rfl))) Via.refl e76 f81 (g := (mkF m 40 #[.val (.ref this), .val (.long q1), .second, .val (.int b3), .val (.int b4)] [(.ref this), (.ref this)])) rfl rfl (hb hby own_d4_40)
    refine own_by st85 ?_
    show own_Go p e below T85 (mkF m 43 #[.val (.ref this), .val (.long q1), .second, .val (.int b3), .val (.int b4)] [(.int S_), (.ref this)]) _
    refine own_s_aloadN X85.here hx (hb hby own_d4_43) rfl rfl ?_
    obtain ⟨T86, X86, e86, st86⟩ := getF X85 hx hZ hown (host := "") (Or.inl (hw _ (List.mem_of_getElem? (i := 12) rfl))) Via.refl e85 f79 (g := (mkF m 44 #[.val (.ref this), .val (.long q1), .second, .val (.int b3), .val (.int b4)] [(.ref this), (.int S_), (.ref this)])) rfl rfl (hb hby own_d4_44)
    refine own_by st86 ?_
    show own_Go p e below T86 (mkF m 47 #[.val (.ref this), .val (.long q1), .second, .val (.int b3), .val (.int b4)] [(.ref sa), (.int S_), (.ref this)]) _
    refine own_s_aloadN X86.here hx (hb hby own_d4_47) rfl rfl ?_
    obtain ⟨T87, X87, e87, st87⟩ := getF X86 hx hZ hown (host := "") (Or.inl (hw _ (List.mem_of_getElem? (i := 25) rfl))) Via.refl e86 f82 (g := (mkF m 48 #[.val (.ref this), .val (.long q1), .second, .val (.int b3), .val (.int b4)] [(.ref this), (.ref sa), (.int S_), (.ref this)])) rfl rfl (hb hby own_d4_48)
    refine own_by st87 ?_
    show own_Go p e below T87 (mkF m 51 #[.val (.ref this), .val (.long q1), .second, .val (.int b3), .val (.int b4)] [(.int x_), (.ref sa), (.int S_), (.ref this)]) _
    refine own_by (fun tq_ kq_ => own_ldZ X87 hx hZ e87 f84 (k := x) (v := (.int vs)) hx1 hx2 hvs (g := (mkF m 51 #[.val (.ref this), .val (.long q1), .second, .val (.int b3), .val (.int b4)] [(.int x_), (.ref sa), (.int S_), (.ref this)])) rfl rfl (hb hby own_d4_51) tq_ kq_) ?_
    show own_Go p e below T87 (mkF m 52 #[.val (.ref this), .val (.long q1), .second, .val (.int b3), .val (.int b4)] [(.int vs), (.int S_), (.ref this)]) _
    refine own_by (T' := T87) (g' := (mkF m 60 #[.val (.ref this), .val (.long q1), .second, .val (.int b3), .val (.int b4)] [(.int vs), (.int S_), (.ref this)])) (fun t k => ?_) ?_
    · rcases hvs1 with q0 | q0
      · rw [q0] at k ⊢
        refine XS.ifYes X87.here hx rfl (pc0 := 52) (pc' := 59) rfl (hb hby own_d4_52) rfl (Jvm.Free.XT.i0_eq_t rfl) (by decide) (by decide) ?_
        exact XS.iconst X87.here hx rfl (hb hby own_d4_59) k
      · rw [q0] at k ⊢
        refine XS.ifNo X87.here hx rfl (hb hby own_d4_52) rfl (Jvm.Free.XT.i0_eq_f (by decide)) ?_
        refine XS.iconst X87.here hx rfl (hb hby own_d4_55) ?_
        exact XS.goto X87.here hx rfl (pc0 := 56) (pc' := 60) rfl (hb hby own_d4_56) (by decide) (by decide) k
    show own_Go p e below T87 (mkF m 60 #[.val (.ref this), .val (.long q1), .second, .val (.int b3), .val (.int b4)] [(.int vs), (.int S_), (.ref this)]) _
    refine own_s_isub X87.here hx (hb hby own_d4_60) ?_
    obtain ⟨T88, h88, X88, e88, W88, st88⟩ := putF X87 hx hZ hown (host := "") (Or.inl (hw _ (List.mem_of_getElem? (i := 29) rfl))) Via.refl e87 f81 f77 (Or.inl (hw _ (List.mem_of_getElem? (i := 30) rfl))) (hw _ (List.mem_of_getElem? (i := 1) rfl)) (ty := .int) (by decide) rfl rfl (g := (mkF m 61 #[.val (.ref this), .val (.long q1), .second, .val (.int b3), .val (.int b4)] [(.int (S_ - vs)), (.ref this)])) rfl rfl (hb hby own_d4_61)
    have fw88 := f81.same W88
    have f89 := f77.wr W88
    have f90 := f78.other W88 (Or.inr (slot_ne (Or.inr (hw _ (List.mem_of_getElem? (i := 11) rfl))) (Or.inl (hw _ (List.mem_of_getElem? (i := 30) rfl))) (by decide) (t := (.array .boolean)) (t' := .int) (by decide) (by decide)))
    have f91 := f79.other W88 (Or.inr (slot_ne (Or.inr (hw _ (List.mem_of_getElem? (i := 13) rfl))) (Or.inl (hw _ (List.mem_of_getElem? (i := 30) rfl))) (by decide) (t := (.array .boolean)) (t' := .int) (by decide) (by decide)))
    have f92 := f80.other W88 (Or.inr (slot_ne (Or.inl (hw _ (List.mem_of_getElem? (i := 24) rfl))) (Or.inl (hw _ (List.mem_of_getElem? (i := 30) rfl))) (by decide) (t := .int) (t' := .int) (by decide) (by decide)))
    have f93 := fw76.other W88 (Or.inr (slot_ne (Or.inl (hw _ (List.mem_of_getElem? (i := 28) rfl))) (Or.inl (hw _ (List.mem_of_getElem? (i := 30) rfl))) (by decide) (t := .int) (t' := .int) (by decide) (by decide)))
    have f94 := f82.other W88 (Or.inr (slot_ne (Or.inl (hw _ (List.mem_of_getElem? (i := 26) rfl))) (Or.inl (hw _ (List.mem_of_getElem? (i := 30) rfl))) (by decide) (t := .int) (t' := .int) (by decide) (by decide)))
    have f95 := f83.other W88 (Ne.symm ne_this_fa)
    have f96 := f84.other W88 (Ne.symm ne_this_sa)
    have N88 := Fr.snoc X88 N76 ge_this
    have SZ88 : n0 ≤ h88.size := by rw [W88.size]; exact SZ76
    have K88 := K76.wr W88 (Or.inl (List.mem_of_getElem? (i := 0) rfl))
    refine own_by st88 ?_
    show own_Go p e below T88 (mkF m 64 #[.val (.ref this), .val (.long q1), .second, .val (.int b3), .val (.int b4)] []) _
    refine own_s_goto X88.here hx 77 (hb hby own_d4_64) (by decide) (by decide) ?_
    refine own_s_aloadN X88.here hx (hb hby own_d4_77) rfl rfl ?_
    obtain ⟨T97, X97, e97, st97⟩ := getF X88 hx hZ hown (host := "") (Or.inl (hw _ (List.mem_of_getElem? (i := 10) rfl))) Via.refl e88 f90 (g := (mkF m 78 #[.val (.ref this), .val (.long q1), .second, .val (.int b3), .val (.int b4)] [(.ref this)])) rfl rfl (hb hby own_d4_78)
    refine own_by st97 ?_
    show own_Go p e below T97 (mkF m 81 #[.val (.ref this), .val (.long q1), .second, .val (.int b3), .val (.int b4)] [(.ref fa)]) _
    refine own_s_aloadN X97.here hx (hb hby own_d4_81) rfl rfl ?_
    obtain ⟨T98, X98, e98, st98⟩ := getF X97 hx hZ hown (host := "") (Or.inl (hw _ (List.mem_of_getElem? (i := 25) rfl))) Via.refl e97 f94 (g := (mkF m 82 #[.val (.ref this), .val (.long q1), .second, .val (.int b3), .val (.int b4)] [(.ref this), (.ref fa)])) rfl rfl (hb hby own_d4_82)
    refine own_by st98 ?_
    show own_Go p e below T98 (mkF m 85 #[.val (.ref this), .val (.long q1), .second, .val (.int b3), .val (.int b4)] [(.int x_), (.ref fa)]) _
    refine own_s_iloadN X98.here hx (hb hby own_d4_85) rfl ?_
    obtain ⟨T99, h99, X99, e99, W99, fa99, st99⟩ := own_stZ X98 hx hZ e98 f95 (k := x) hx1 hx2 (g := (mkF m 86 #[.val (.ref this), .val (.long q1), .second, .val (.int b3), .val (.int b4)] [(.int b3), (.int x_), (.ref fa)])) rfl rfl (hb hby own_d4_86)
    have f100 := f89.wr W99
    have f101 := f90.other W99 (Or.inl ne_this_fa)
    have f102 := f91.other W99 (Or.inl ne_this_fa)
    have f103 := f92.other W99 (Or.inl ne_this_fa)
    have f104 := f93.other W99 (Or.inl ne_this_fa)
    have f105 := fw88.other W99 (Or.inl ne_this_fa)
    have f106 := f94.other W99 (Or.inl ne_this_fa)
    have f107 := f96.other W99 (Ne.symm ne_fa_sa)
    have N99 := Fr.snoc X99 N88 ge_fa
    have SZ99 : n0 ≤ h99.size := by rw [W99.size]; exact SZ88
    have K99 := K88.wr W99 (Or.inl (List.mem_of_getElem? (i := 1) rfl))
    refine own_by st99 ?_
    show own_Go p e below T99 (mkF m 87 #[.val (.ref this), .val (.long q1), .second, .val (.int b3), .val (.int b4)] []) _
    refine own_s_aloadN X99.here hx (hb hby own_d4_87) rfl rfl ?_
    obtain ⟨T108, X108, e108, st108⟩ := getF X99 hx hZ hown (host := "") (Or.inl (hw _ (List.mem_of_getElem? (i := 12) rfl))) Via.refl e99 f102 (g := (mkF m 88 #[.val (.ref this), .val (.long q1), .second, .val (.int b3), .val (.int b4)] [(.ref this)])) rfl rfl (hb hby own_d4_88)
    refine own_by st108 ?_
    show own_Go p e below T108 (mkF m 91 #[.val (.ref this), .val (.long q1), .second, .val (.int b3), .val (.int b4)] [(.ref sa)]) _
    refine own_s_aloadN X108.here hx (hb hby own_d4_91) rfl rfl ?_
    obtain ⟨T109, X109, e109, st109⟩ := getF X108 hx hZ hown (host := "") (Or.inl (hw _ (List.mem_of_getElem? (i := 25) rfl))) Via.refl e108 f106 (g := (mkF m 92 #[.val (.ref this), .val (.long q1), .second, .val (.int b3), .val (.int b4)] [(.ref this), (.ref sa)])) rfl rfl (hb hby own_d4_92)
    refine own_by st109 ?_
    show own_Go p e below T109 (mkF m 95 #[.val (.ref this), .val (.long q1), .second, .val (.int b3), .val (.int b4)] [(.int x_), (.ref sa)]) _
    refine own_s_iload X109.here hx (hb hby own_d4_95) rfl ?_
    obtain ⟨T110, h110, X110, e110, W110, fa110, st110⟩ := own_stZ X109 hx hZ e109 f107 (k := x) hx1 hx2 (g := (mkF m 97 #[.val (.ref this), .val (.long q1), .second, .val (.int b3), .val (.int b4)] [(.int b4), (.int x_), (.ref sa)])) rfl rfl (hb hby own_d4_97)
    have f111 := f100.wr W110
    have f112 := f101.other W110 (Or.inl ne_this_sa)
    have f113 := f102.other W110 (Or.inl ne_this_sa)
    have f114 := f103.other W110 (Or.inl ne_this_sa)
    have f115 := f104.other W110 (Or.inl ne_this_sa)
    have f116 := f105.other W110 (Or.inl ne_this_sa)
    have f117 := f106.other W110 (Or.inl ne_this_sa)
    have f118 := fa99.other W110 ne_fa_sa
    have N110 := Fr.snoc X110 N99 ge_sa
    have SZ110 : n0 ≤ h110.size := by rw [W110.size]; exact SZ99
    have K110 := K99.wr W110 (Or.inl (List.mem_of_getElem? (i := 2) rfl))
    refine own_by st110 ?_
    show own_Go p e below T110 (mkF m 98 #[.val (.ref this), .val (.long q1), .second, .val (.int b3), .val (.int b4)] []) _
    refine own_s_aloadN X110.here hx (hb hby own_d4_98) rfl rfl ?_
    refine own_s_dup X110.here hx (hb hby own_d4_99) rfl ?_
    obtain ⟨T119, X119, e119, st119⟩ := getF X110 hx hZ hown (host := "") (Or.inl (hw _ (List.mem_of_getElem? (i := 27) rfl))) Via.refl e110 f115 (g := (mkF m 100 #[.val (.ref this), .val (.long q1), .second, .val (.int b3), .val (.int b4)] [(.ref this), (.ref this)])) rfl rfl (hb hby own_d4_100)
    refine own_by st119 ?_
    show own_Go p e below T119 (mkF m 103 #[.val (.ref this), .val (.long q1), .second, .val (.int b3), .val (.int b4)] [(.int (F_ - vf)), (.ref this)]) _
    refine own_s_iloadN X119.here hx (hb hby own_d4_103) rfl ?_
    refine own_by (T' := T119) (g' := (mkF m 112 #[.val (.ref this), .val (.long q1), .second, .val (.int b3), .val (.int b4)] [(.int b3), (.int (F_ - vf)), (.ref this)])) (fun t k => ?_) ?_
    · rcases hb3 with q0 | q0
      · rw [q0] at k ⊢
        refine XS.ifYes X119.here hx rfl (pc0 := 104) (pc' := 111) rfl (hb hby own_d4_104) rfl (Jvm.Free.XT.i0_eq_t rfl) (by decide) (by decide) ?_
        exact XS.iconst X119.here hx rfl (hb hby own_d4_111) k
      · rw [q0] at k ⊢
        refine XS.ifNo X119.here hx rfl (hb hby own_d4_104) rfl (Jvm.Free.XT.i0_eq_f (by decide)) ?_
        refine XS.iconst X119.here hx rfl (hb hby own_d4_107) ?_
        exact XS.goto X119.here hx rfl (pc0 := 108) (pc' := 112) rfl (hb hby own_d4_108) (by decide) (by decide) k
    show own_Go p e below T119 (mkF m 112 #[.val (.ref this), .val (.long q1), .second, .val (.int b3), .val (.int b4)] [(.int b3), (.int (F_ - vf)), (.ref this)]) _
    refine own_s_iadd X119.here hx (hb hby own_d4_112) ?_
    obtain ⟨T120, h120, X120, e120, W120, st120⟩ := putF X119 hx hZ hown (host := "") (Or.inl (hw _ (List.mem_of_getElem? (i := 27) rfl))) Via.refl e119 f115 f111 (Or.inl (hw _ (List.mem_of_getElem? (i := 28) rfl))) (hw _ (List.mem_of_getElem? (i := 1) rfl)) (ty := .int) (by decide) rfl rfl (g := (mkF m 113 #[.val (.ref this), .val (.long q1), .second, .val (.int b3), .val (.int b4)] [(.int ((F_ - vf) + b3)), (.ref this)])) rfl rfl (hb hby own_d4_113)
    have fw120 := f115.same W120
    have f121 := f111.wr W120
    have f122 := f112.other W120 (Or.inr (slot_ne (Or.inr (hw _ (List.mem_of_getElem? (i := 11) rfl))) (Or.inl (hw _ (List.mem_of_getElem? (i := 28) rfl))) (by decide) (t := (.array .boolean)) (t' := .int) (by decide) (by decide)))
    have f123 := f113.other W120 (Or.inr (slot_ne (Or.inr (hw _ (List.mem_of_getElem? (i := 13) rfl))) (Or.inl (hw _ (List.mem_of_getElem? (i := 28) rfl))) (by decide) (t := (.array .boolean)) (t' := .int) (by decide) (by decide)))
    have f124 := f114.other W120 (Or.inr (slot_ne (Or.inl (hw _ (List.mem_of_getElem? (i := 24) rfl))) (Or.inl (hw _ (List.mem_of_getElem? (i := 28) rfl))) (by decide) (t := .int) (t' := .int) (by decide) (by decide)))
    have f125 := f116.other W120 (Or.inr (slot_ne (Or.inl (hw _ (List.mem_of_getElem? (i := 30) rfl))) (Or.inl (hw _ (List.mem_of_getElem? (i := 28) rfl))) (by decide) (t := .int) (t' := .int) (by decide) (by decide)))
    have f126 := f117.other W120 (Or.inr (slot_ne (Or.inl (hw _ (List.mem_of_getElem? (i := 26) rfl))) (Or.inl (hw _ (List.mem_of_getElem? (i := 28) rfl))) (by decide) (t := .int) (t' := .int) (by decide) (by decide)))
    have f127 := f118.other W120 (Ne.symm ne_this_fa)
    have f128 := fa110.other W120 (Ne.symm ne_this_sa)
    have N120 := Fr.snoc X120 N110 ge_this
    have SZ120 : n0 ≤ h120.size := by rw [W120.size]; exact SZ110
    have K120 := K110.wr W120 (Or.inl (List.mem_of_getElem? (i := 0) rfl))
    refine own_by st120 ?_
    show own_Go p e below T120 (mkF m 116 #[.val (.ref this), .val (.long q1), .second, .val (.int b3), .val (.int b4)] []) _
    refine own_s_aloadN X120.here hx (hb hby own_d4_116) rfl rfl ?_
    refine own_s_dup X120.here hx (hb hby own_d4_117) rfl ?_
    obtain ⟨T129, X129, e129, st129⟩ := getF X120 hx hZ hown (host := "") (Or.inl (hw _ (List.mem_of_getElem? (i := 29) rfl))) Via.refl e120 f125 (g := (mkF m 118 #[.val (.ref this), .val (.long q1), .second, .val (.int b3), .val (.int b4)] [(.ref this), (.ref this)])) rfl rfl (hb hby own_d4_118)
    refine own_by st129 ?_
    show own_Go p e below T129 (mkF m 121 #[.val (.ref this), .val (.long q1), .second, .val (.int b3), .val (.int b4)] [(.int (S_ - vs)), (.ref this)]) _
    refine own_s_iload X129.here hx (hb hby own_d4_121) rfl ?_
    refine own_by (T' := T129) (g' := (mkF m 131 #[.val (.ref this), .val (.long q1), .second, .val (.int b3), .val (.int b4)] [(.int b4), (.int (S_ - vs)), (.ref this)])) (fun t k => ?_) ?_
    · rcases hb4 with q0 | q0
      · rw [q0] at k ⊢
        refine XS.ifYes X129.here hx rfl (pc0 := 123) (pc' := 130) rfl (hb hby own_d4_123) rfl (Jvm.Free.XT.i0_eq_t rfl) (by decide) (by decide) ?_
        exact XS.iconst X129.here hx rfl (hb hby own_d4_130) k
      · rw [q0] at k ⊢
        refine XS.ifNo X129.here hx rfl (hb hby own_d4_123) rfl (Jvm.Free.XT.i0_eq_f (by decide)) ?_
        refine XS.iconst X129.here hx rfl (hb hby own_d4_126) ?_
        exact XS.goto X129.here hx rfl (pc0 := 127) (pc' := 131) rfl (hb hby own_d4_127) (by decide) (by decide) k
    show own_Go p e below T129 (mkF m 131 #[.val (.ref this), .val (.long q1), .second, .val (.int b3), .val (.int b4)] [(.int b4), (.int (S_ - vs)), (.ref this)]) _
    refine own_s_iadd X129.here hx (hb hby own_d4_131) ?_
    obtain ⟨T130, h130, X130, e130, W130, st130⟩ := putF X129 hx hZ hown (host := "") (Or.inl (hw _ (List.mem_of_getElem? (i := 29) rfl))) Via.refl e129 f125 f121 (Or.inl (hw _ (List.mem_of_getElem? (i := 30) rfl))) (hw _ (List.mem_of_getElem? (i := 1) rfl)) (ty := .int) (by decide) rfl rfl (g := (mkF m 132 #[.val (.ref this), .val (.long q1), .second, .val (.int b3), .val (.int b4)] [(.int ((S_ - vs) + b4)), (.ref this)])) rfl rfl (hb hby own_d4_132)
    have fw130 := f125.same W130
    have f131 := f121.wr W130
    have f132 := f122.other W130 (Or.inr (slot_ne (Or.inr (hw _ (List.mem_of_getElem? (i := 11) rfl))) (Or.inl (hw _ (List.mem_of_getElem? (i := 30) rfl))) (by decide) (t := (.array .boolean)) (t' := .int) (by decide) (by decide)))
    have f133 := f123.other W130 (Or.inr (slot_ne (Or.inr (hw _ (List.mem_of_getElem? (i := 13) rfl))) (Or.inl (hw _ (List.mem_of_getElem? (i := 30) rfl))) (by decide) (t := (.array .boolean)) (t' := .int) (by decide) (by decide)))
    have f134 := f124.other W130 (Or.inr (slot_ne (Or.inl (hw _ (List.mem_of_getElem? (i := 24) rfl))) (Or.inl (hw _ (List.mem_of_getElem? (i := 30) rfl))) (by decide) (t := .int) (t' := .int) (by decide) (by decide)))
    have f135 := fw120.other W130 (Or.inr (slot_ne (Or.inl (hw _ (List.mem_of_getElem? (i := 28) rfl))) (Or.inl (hw _ (List.mem_of_getElem? (i := 30) rfl))) (by decide) (t := .int) (t' := .int) (by decide) (by decide)))
    have f136 := f126.other W130 (Or.inr (slot_ne (Or.inl (hw _ (List.mem_of_getElem? (i := 26) rfl))) (Or.inl (hw _ (List.mem_of_getElem? (i := 30) rfl))) (by decide) (t := .int) (t' := .int) (by decide) (by decide)))
    have f137 := f127.other W130 (Ne.symm ne_this_fa)
    have f138 := f128.other W130 (Ne.symm ne_this_sa)
    have N130 := Fr.snoc X130 N120 ge_this
    have SZ130 : n0 ≤ h130.size := by rw [W130.size]; exact SZ120
    have K130 := K120.wr W130 (Or.inl (List.mem_of_getElem? (i := 0) rfl))
    refine own_by st130 ?_
    show own_Go p e below T130 (mkF m 135 #[.val (.ref this), .val (.long q1), .second, .val (.int b3), .val (.int b4)] []) _
    refine own_s_aloadN X130.here hx (hb hby own_d4_135) rfl rfl ?_
    refine own_s_aloadN X130.here hx (hb hby own_d4_136) rfl rfl ?_
    obtain ⟨T139, X139, e139, st139⟩ := getF X130 hx hZ hown (host := "") (Or.inl (hw _ (List.mem_of_getElem? (i := 25) rfl))) Via.refl e130 f136 (g := (mkF m 137 #[.val (.ref this), .val (.long q1), .second, .val (.int b3), .val (.int b4)] [(.ref this), (.ref this)])) rfl rfl (hb hby own_d4_137)
    refine own_by st139 ?_
    show own_Go p e below T139 (mkF m 140 #[.val (.ref this), .val (.long q1), .second, .val (.int b3), .val (.int b4)] [(.int x_), (.ref this)]) _
    refine own_s_iconst X139.here hx (1 : Int32) (hb hby own_d4_140) rfl ?_
    refine own_s_iadd X139.here hx (hb hby own_d4_141) ?_
    refine own_s_aloadN X139.here hx (hb hby own_d4_142) rfl rfl ?_
    obtain ⟨T140, X140, e140, st140⟩ := getF X139 hx hZ hown (host := "") (Or.inl (hw _ (List.mem_of_getElem? (i := 10) rfl))) Via.refl e139 f132 (g := (mkF m 143 #[.val (.ref this), .val (.long q1), .second, .val (.int b3), .val (.int b4)] [(.ref this), (.int (x_ + (1 : Int32))), (.ref this)])) rfl rfl (hb hby own_d4_143)
    refine own_by st140 ?_
    show own_Go p e below T140 (mkF m 146 #[.val (.ref this), .val (.long q1), .second, .val (.int b3), .val (.int b4)] [(.ref fa), (.int (x_ + (1 : Int32))), (.ref this)]) _
    refine own_by (fun tq_ kq_ => own_len X140 hx hZ e140 f137 (z := z) hz (g := (mkF m 146 #[.val (.ref this), .val (.long q1), .second, .val (.int b3), .val (.int b4)] [(.ref fa), (.int (x_ + (1 : Int32))), (.ref this)])) rfl rfl (hb hby own_d4_146) tq_ kq_) ?_
    show own_Go p e below T140 (mkF m 147 #[.val (.ref this), .val (.long q1), .second, .val (.int b3), .val (.int b4)] [(.int z), (.int (x_ + (1 : Int32))), (.ref this)]) _
    by_cases hc147 : (x_ + (1 : Int32)) = z
    ·
      refine own_s_icmpNo X140.here hx (hb hby own_d4_147) (Jvm.Free.XT.ii_ne_f hc147) ?_
      refine own_s_iconst X140.here hx (0 : Int32) (hb hby own_d4_150) rfl ?_
      show own_Go p e below T140 (mkF m 151 #[.val (.ref this), .val (.long q1), .second, .val (.int b3), .val (.int b4)] [(.int (0 : Int32)), (.ref this)]) _
      refine own_s_goto X140.here hx 160 (hb hby own_d4_151) (by decide) (by decide) ?_
      obtain ⟨T141, h141, X141, e141, W141, st141⟩ := putF X140 hx hZ hown (host := "") (Or.inl (hw _ (List.mem_of_getElem? (i := 25) rfl))) Via.refl e140 f136 f131 (Or.inl (hw _ (List.mem_of_getElem? (i := 26) rfl))) (hw _ (List.mem_of_getElem? (i := 1) rfl)) (ty := .int) (by decide) rfl rfl (g := (mkF m 160 #[.val (.ref this), .val (.long q1), .second, .val (.int b3), .val (.int b4)] [(.int (0 : Int32)), (.ref this)])) rfl rfl (hb hby own_d4_160)
      have fw141 := f136.same W141
      have f142 := f131.wr W141
      have f143 := f132.other W141 (Or.inr (slot_ne (Or.inr (hw _ (List.mem_of_getElem? (i := 11) rfl))) (Or.inl (hw _ (List.mem_of_getElem? (i := 26) rfl))) (by decide) (t := (.array .boolean)) (t' := .int) (by decide) (by decide)))
      have f144 := f133.other W141 (Or.inr (slot_ne (Or.inr (hw _ (List.mem_of_getElem? (i := 13) rfl))) (Or.inl (hw _ (List.mem_of_getElem? (i := 26) rfl))) (by decide) (t := (.array .boolean)) (t' := .int) (by decide) (by decide)))
      have f145 := f134.other W141 (Or.inr (slot_ne (Or.inl (hw _ (List.mem_of_getElem? (i := 24) rfl))) (Or.inl (hw _ (List.mem_of_getElem? (i := 26) rfl))) (by decide) (t := .int) (t' := .int) (by decide) (by decide)))
      have f146 := f135.other W141 (Or.inr (slot_ne (Or.inl (hw _ (List.mem_of_getElem? (i := 28) rfl))) (Or.inl (hw _ (List.mem_of_getElem? (i := 26) rfl))) (by decide) (t := .int) (t' := .int) (by decide) (by decide)))
      have f147 := fw130.other W141 (Or.inr (slot_ne (Or.inl (hw _ (List.mem_of_getElem? (i := 30) rfl))) (Or.inl (hw _ (List.mem_of_getElem? (i := 26) rfl))) (by decide) (t := .int) (t' := .int) (by decide) (by decide)))
      have f148 := f137.other W141 (Ne.symm ne_this_fa)
      have f149 := f138.other W141 (Ne.symm ne_this_sa)
      have N141 := Fr.snoc X141 N130 ge_this
      have SZ141 : n0 ≤ h141.size := by rw [W141.size]; exact SZ130
      have K141 := K130.wr W141 (Or.inl (List.mem_of_getElem? (i := 0) rfl))
      refine own_by st141 ?_
      show own_Go p e below T141 (mkF m 163 #[.val (.ref this), .val (.long q1), .second, .val (.int b3), .val (.int b4)] []) _
      refine own_retV X141 hx hret hlk (hb hby own_d4_163) (by decide) (by decide) ?_
      rw [e141]
      have qa := f148
      rw [own_and1 hb3] at qa
      have qs := f149
      rw [own_and1 hb4] at qs
      have e1 : own_nc c_ z = c_ := by unfold own_nc; rw [if_pos hc9]
      have e2 : own_nf F_ c_ z vf b3 = ((F_ - vf) + b3) := by unfold own_nf; rw [if_pos hc9]
      have e3 : own_nf S_ c_ z vs b4 = ((S_ - vs) + b4) := by unfold own_nf; rw [if_pos hc9]
      have e4 : own_nx x_ z = (0 : Int32) := by unfold own_nx; rw [if_pos hc147]
      rw [e1, e2, e3, e4]
      exact ⟨rfl, N141, K141, f143, f144, f145, f146, f147, fw141, qa, qs⟩
    ·
      refine own_s_icmpYes X140.here hx 154 (hb hby own_d4_147) (Jvm.Free.XT.ii_ne_t hc147) (by decide) (by decide) ?_
      refine own_s_aloadN X140.here hx (hb hby own_d4_154) rfl rfl ?_
      obtain ⟨T150, X150, e150, st150⟩ := getF X140 hx hZ hown (host := "") (Or.inl (hw _ (List.mem_of_getElem? (i := 25) rfl))) Via.refl e140 f136 (g := (mkF m 155 #[.val (.ref this), .val (.long q1), .second, .val (.int b3), .val (.int b4)] [(.ref this), (.ref this)])) rfl rfl (hb hby own_d4_155)
      refine own_by st150 ?_
      show own_Go p e below T150 (mkF m 158 #[.val (.ref this), .val (.long q1), .second, .val (.int b3), .val (.int b4)] [(.int x_), (.ref this)]) _
      refine own_s_iconst X150.here hx (1 : Int32) (hb hby own_d4_158) rfl ?_
      refine own_s_iadd X150.here hx (hb hby own_d4_159) ?_
      obtain ⟨T151, h151, X151, e151, W151, st151⟩ := putF X150 hx hZ hown (host := "") (Or.inl (hw _ (List.mem_of_getElem? (i := 25) rfl))) Via.refl e150 f136 f131 (Or.inl (hw _ (List.mem_of_getElem? (i := 26) rfl))) (hw _ (List.mem_of_getElem? (i := 1) rfl)) (ty := .int) (by decide) rfl rfl (g := (mkF m 160 #[.val (.ref this), .val (.long q1), .second, .val (.int b3), .val (.int b4)] [(.int (x_ + (1 : Int32))), (.ref this)])) rfl rfl (hb hby own_d4_160)
      have fw151 := f136.same W151
      have f152 := f131.wr W151
      have f153 := f132.other W151 (Or.inr (slot_ne (Or.inr (hw _ (List.mem_of_getElem? (i := 11) rfl))) (Or.inl (hw _ (List.mem_of_getElem? (i := 26) rfl))) (by decide) (t := (.array .boolean)) (t' := .int) (by decide) (by decide)))
      have f154 := f133.other W151 (Or.inr (slot_ne (Or.inr (hw _ (List.mem_of_getElem? (i := 13) rfl))) (Or.inl (hw _ (List.mem_of_getElem? (i := 26) rfl))) (by decide) (t := (.array .boolean)) (t' := .int) (by decide) (by decide)))
      have f155 := f134.other W151 (Or.inr (slot_ne (Or.inl (hw _ (List.mem_of_getElem? (i := 24) rfl))) (Or.inl (hw _ (List.mem_of_getElem? (i := 26) rfl))) (by decide) (t := .int) (t' := .int) (by decide) (by decide)))
      have f156 := f135.other W151 (Or.inr (slot_ne (Or.inl (hw _ (List.mem_of_getElem? (i := 28) rfl))) (Or.inl (hw _ (List.mem_of_getElem? (i := 26) rfl))) (by decide) (t := .int) (t' := .int) (by decide) (by decide)))
      have f157 := fw130.other W151 (Or.inr (slot_ne (Or.inl (hw _ (List.mem_of_getElem? (i := 30) rfl))) (Or.inl (hw _ (List.mem_of_getElem? (i := 26) rfl))) (by decide) (t := .int) (t' := .int) (by decide) (by decide)))
      have f158 := f137.other W151 (Ne.symm ne_this_fa)
      have f159 := f138.other W151 (Ne.symm ne_this_sa)
      have N151 := Fr.snoc X151 N130 ge_this
      have SZ151 : n0 ≤ h151.size := by rw [W151.size]; exact SZ130
      have K151 := K130.wr W151 (Or.inl (List.mem_of_getElem? (i := 0) rfl))
      refine own_by st151 ?_
      show own_Go p e below T151 (mkF m 163 #[.val (.ref this), .val (.long q1), .second, .val (.int b3), .val (.int b4)] []) _
      refine own_retV X151 hx hret hlk (hb hby own_d4_163) (by decide) (by decide) ?_
      rw [e151]
      have qa := f158
      rw [own_and1 hb3] at qa
      have qs := f159
      rw [own_and1 hb4] at qs
      have e1 : own_nc c_ z = c_ := by unfold own_nc; rw [if_pos hc9]
      have e2 : own_nf F_ c_ z vf b3 = ((F_ - vf) + b3) := by unfold own_nf; rw [if_pos hc9]
      have e3 : own_nf S_ c_ z vs b4 = ((S_ - vs) + b4) := by unfold own_nf; rw [if_pos hc9]
      have e4 : own_nx x_ z = (x_ + (1 : Int32)) := by unfold own_nx; rw [if_neg hc147]
      rw [e1, e2, e3, e4]
      exact ⟨rfl, N151, K151, f153, f154, f155, f156, f157, fw151, qa, qs⟩
  ·
    refine own_s_icmpYes X72.here hx 67 (hb hby own_d4_9) (Jvm.Free.XT.ii_ne_t hc9) (by decide) (by decide) ?_
    refine own_s_aloadN X72.here hx (hb hby own_d4_67) rfl rfl ?_
    refine own_s_dup X72.here hx (hb hby own_d4_68) rfl ?_
    obtain ⟨T160, X160, e160, st160⟩ := getF X72 hx hZ hown (host := "") (Or.inl (hw _ (List.mem_of_getElem? (i := 23) rfl))) Via.refl e72 F_this_calls (g := (mkF m 69 #[.val (.ref this), .val (.long q1), .second, .val (.int b3), .val (.int b4)] [(.ref this), (.ref this)])) rfl rfl (hb hby own_d4_69)
    refine own_by st160 ?_
    show own_Go p e below T160 (mkF m 72 #[.val (.ref this), .val (.long q1), .second, .val (.int b3), .val (.int b4)] [(.int c_), (.ref this)]) _
    refine own_s_iconst X160.here hx (1 : Int32) (hb hby own_d4_72) rfl ?_
    refine own_s_iadd X160.here hx (hb hby own_d4_73) ?_
    obtain ⟨T161, h161, X161, e161, W161, st161⟩ := putF X160 hx hZ hown (host := "") (Or.inl (hw _ (List.mem_of_getElem? (i := 23) rfl))) Via.refl e160 F_this_calls E_this (Or.inl (hw _ (List.mem_of_getElem? (i := 24) rfl))) (hw _ (List.mem_of_getElem? (i := 1) rfl)) (ty := .int) (by decide) rfl rfl (g := (mkF m 74 #[.val (.ref this), .val (.long q1), .second, .val (.int b3), .val (.int b4)] [(.int (c_ + (1 : Int32))), (.ref this)])) rfl rfl (hb hby own_d4_74)
    have fw161 := F_this_calls.same W161
    have f162 := E_this.wr W161
    have f163 := F_this_failed.other W161 (Or.inr (slot_ne (Or.inr (hw _ (List.mem_of_getElem? (i := 11) rfl))) (Or.inl (hw _ (List.mem_of_getElem? (i := 24) rfl))) (by decide) (t := (.array .boolean)) (t' := .int) (by decide) (by decide)))
    have f164 := F_this_slow.other W161 (Or.inr (slot_ne (Or.inr (hw _ (List.mem_of_getElem? (i := 13) rfl))) (Or.inl (hw _ (List.mem_of_getElem? (i := 24) rfl))) (by decide) (t := (.array .boolean)) (t' := .int) (by decide) (by decide)))
    have f165 := F_this_failures.other W161 (Or.inr (slot_ne (Or.inl (hw _ (List.mem_of_getElem? (i := 28) rfl))) (Or.inl (hw _ (List.mem_of_getElem? (i := 24) rfl))) (by decide) (t := .int) (t' := .int) (by decide) (by decide)))
    have f166 := F_this_slowCalls.other W161 (Or.inr (slot_ne (Or.inl (hw _ (List.mem_of_getElem? (i := 30) rfl))) (Or.inl (hw _ (List.mem_of_getElem? (i := 24) rfl))) (by decide) (t := .int) (t' := .int) (by decide) (by decide)))
    have f167 := F_this_next.other W161 (Or.inr (slot_ne (Or.inl (hw _ (List.mem_of_getElem? (i := 26) rfl))) (Or.inl (hw _ (List.mem_of_getElem? (i := 24) rfl))) (by decide) (t := .int) (t' := .int) (by decide) (by decide)))
    have f168 := A_fa.other W161 (Ne.symm ne_this_fa)
    have f169 := A_sa.other W161 (Ne.symm ne_this_sa)
    have N161 := Fr.snoc X161 N0 ge_this
    have SZ161 : n0 ≤ h161.size := by rw [W161.size]; exact Z0
    have K161 := K0.wr W161 (Or.inl (List.mem_of_getElem? (i := 0) rfl))
    refine own_by st161 ?_
    show own_Go p e below T161 (mkF m 77 #[.val (.ref this), .val (.long q1), .second, .val (.int b3), .val (.int b4)] []) _
    refine own_s_aloadN X161.here hx (hb hby own_d4_77) rfl rfl ?_
    obtain ⟨T170, X170, e170, st170⟩ := getF X161 hx hZ hown (host := "") (Or.inl (hw _ (List.mem_of_getElem? (i := 10) rfl))) Via.refl e161 f163 (g := (mkF m 78 #[.val (.ref this), .val (.long q1), .second, .val (.int b3), .val (.int b4)] [(.ref this)])) rfl rfl (hb hby own_d4_78)
    refine own_by st170 ?_
    show own_Go p e below T170 (mkF m 81 #[.val (.ref this), .val (.long q1), .second, .val (.int b3), .val (.int b4)] [(.ref fa)]) _
    refine own_s_aloadN X170.here hx (hb hby own_d4_81) rfl rfl ?_
    obtain ⟨T171, X171, e171, st171⟩ := getF X170 hx hZ hown (host := "") (Or.inl (hw _ (List.mem_of_getElem? (i := 25) rfl))) Via.refl e170 f167 (g := (mkF m 82 #[.val (.ref this), .val (.long q1), .second, .val (.int b3), .val (.int b4)] [(.ref this), (.ref fa)])) rfl rfl (hb hby own_d4_82)
    refine own_by st171 ?_
    show own_Go p e below T171 (mkF m 85 #[.val (.ref this), .val (.long q1), .second, .val (.int b3), .val (.int b4)] [(.int x_), (.ref fa)]) _
    refine own_s_iloadN X171.here hx (hb hby own_d4_85) rfl ?_
    obtain ⟨T172, h172, X172, e172, W172, fa172, st172⟩ := own_stZ X171 hx hZ e171 f168 (k := x) hx1 hx2 (g := (mkF m 86 #[.val (.ref this), .val (.long q1), .second, .val (.int b3), .val (.int b4)] [(.int b3), (.int x_), (.ref fa)])) rfl rfl (hb hby own_d4_86)
    have f173 := f162.wr W172
    have f174 := f163.other W172 (Or.inl ne_this_fa)
    have f175 := f164.other W172 (Or.inl ne_this_fa)
    have f176 := fw161.other W172 (Or.inl ne_this_fa)
    have f177 := f165.other W172 (Or.inl ne_this_fa)
    have f178 := f166.other W172 (Or.inl ne_this_fa)
    have f179 := f167.other W172 (Or.inl ne_this_fa)
    have f180 := f169.other W172 (Ne.symm ne_fa_sa)
    have N172 := Fr.snoc X172 N161 ge_fa
    have SZ172 : n0 ≤ h172.size := by rw [W172.size]; exact SZ161
    have K172 := K161.wr W172 (Or.inl (List.mem_of_getElem? (i := 1) rfl))
    refine own_by st172 ?_
    show own_Go p e below T172 (mkF m 87 #[.val (.ref this), .val (.long q1), .second, .val (.int b3), .val (.int b4)] []) _
    refine own_s_aloadN X172.here hx (hb hby own_d4_87) rfl rfl ?_
    obtain ⟨T181, X181, e181, st181⟩ := getF X172 hx hZ hown (host := "") (Or.inl (hw _ (List.mem_of_getElem? (i := 12) rfl))) Via.refl e172 f175 (g := (mkF m 88 #[.val (.ref this), .val (.long q1), .second, .val (.int b3), .val (.int b4)] [(.ref this)])) rfl rfl (hb hby own_d4_88)
    refine own_by st181 ?_
    show own_Go p e below T181 (mkF m 91 #[.val (.ref this), .val (.long q1), .second, .val (.int b3), .val (.int b4)] [(.ref sa)]) _
    refine own_s_aloadN X181.here hx (hb hby own_d4_91) rfl rfl ?_
    obtain ⟨T182, X182, e182, st182⟩ := getF X181 hx hZ hown (host := "") (Or.inl (hw _ (List.mem_of_getElem? (i := 25) rfl))) Via.refl e181 f179 (g := (mkF m 92 #[.val (.ref this), .val (.long q1), .second, .val (.int b3), .val (.int b4)] [(.ref this), (.ref sa)])) rfl rfl (hb hby own_d4_92)
    refine own_by st182 ?_
    show own_Go p e below T182 (mkF m 95 #[.val (.ref this), .val (.long q1), .second, .val (.int b3), .val (.int b4)] [(.int x_), (.ref sa)]) _
    refine own_s_iload X182.here hx (hb hby own_d4_95) rfl ?_
    obtain ⟨T183, h183, X183, e183, W183, fa183, st183⟩ := own_stZ X182 hx hZ e182 f180 (k := x) hx1 hx2 (g := (mkF m 97 #[.val (.ref this), .val (.long q1), .second, .val (.int b3), .val (.int b4)] [(.int b4), (.int x_), (.ref sa)])) rfl rfl (hb hby own_d4_97)
    have f184 := f173.wr W183
    have f185 := f174.other W183 (Or.inl ne_this_sa)
    have f186 := f175.other W183 (Or.inl ne_this_sa)
    have f187 := f176.other W183 (Or.inl ne_this_sa)
    have f188 := f177.other W183 (Or.inl ne_this_sa)
    have f189 := f178.other W183 (Or.inl ne_this_sa)
    have f190 := f179.other W183 (Or.inl ne_this_sa)
    have f191 := fa172.other W183 ne_fa_sa
    have N183 := Fr.snoc X183 N172 ge_sa
    have SZ183 : n0 ≤ h183.size := by rw [W183.size]; exact SZ172
    have K183 := K172.wr W183 (Or.inl (List.mem_of_getElem? (i := 2) rfl))
    refine own_by st183 ?_
    show own_Go p e below T183 (mkF m 98 #[.val (.ref this), .val (.long q1), .second, .val (.int b3), .val (.int b4)] []) _
    refine own_s_aloadN X183.here hx (hb hby own_d4_98) rfl rfl ?_
    refine own_s_dup X183.here hx (hb hby own_d4_99) rfl ?_
    obtain ⟨T192, X192, e192, st192⟩ := getF X183 hx hZ hown (host := "") (Or.inl (hw _ (List.mem_of_getElem? (i := 27) rfl))) Via.refl e183 f188 (g := (mkF m 100 #[.val (.ref this), .val (.long q1), .second, .val (.int b3), .val (.int b4)] [(.ref this), (.ref this)])) rfl rfl (hb hby own_d4_100)
    refine own_by st192 ?_
    show own_Go p e below T192 (mkF m 103 #[.val (.ref this), .val (.long q1), .second, .val (.int b3), .val (.int b4)] [(.int F_), (.ref this)]) _
    refine own_s_iloadN X192.here hx (hb hby own_d4_103) rfl ?_
    refine own_by (T' := T192) (g' := (mkF m 112 #[.val (.ref this), .val (.long q1), .second, .val (.int b3), .val (.int b4)] [(.int b3), (.int F_), (.ref this)])) (fun t k => ?_) ?_
    · rcases hb3 with q0 | q0
      · rw [q0] at k ⊢
        refine XS.ifYes X192.here hx rfl (pc0 := 104) (pc' := 111) rfl (hb hby own_d4_104) rfl (Jvm.Free.XT.i0_eq_t rfl) (by decide) (by decide) ?_
        exact XS.iconst X192.here hx rfl (hb hby own_d4_111) k
      · rw [q0] at k ⊢
        refine XS.ifNo X192.here hx rfl (hb hby own_d4_104) rfl (Jvm.Free.XT.i0_eq_f (by decide)) ?_
        refine XS.iconst X192.here hx rfl (hb hby own_d4_107) ?_
        exact XS.goto X192.here hx rfl (pc0 := 108) (pc' := 112) rfl (hb hby own_d4_108) (by decide) (by decide) k
    show own_Go p e below T192 (mkF m 112 #[.val (.ref this), .val (.long q1), .second, .val (.int b3), .val (.int b4)] [(.int b3), (.int F_), (.ref this)]) _
    refine own_s_iadd X192.here hx (hb hby own_d4_112) ?_
    obtain ⟨T193, h193, X193, e193, W193, st193⟩ := putF X192 hx hZ hown (host := "") (Or.inl (hw _ (List.mem_of_getElem? (i := 27) rfl))) Via.refl e192 f188 f184 (Or.inl (hw _ (List.mem_of_getElem? (i := 28) rfl))) (hw _ (List.mem_of_getElem? (i := 1) rfl)) (ty := .int) (by decide) rfl rfl (g := (mkF m 113 #[.val (.ref this), .val (.long q1), .second, .val (.int b3), .val (.int b4)] [(.int (F_ + b3)), (.ref this)])) rfl rfl (hb hby own_d4_113)
    have fw193 := f188.same W193
    have f194 := f184.wr W193
    have f195 := f185.other W193 (Or.inr (slot_ne (Or.inr (hw _ (List.mem_of_getElem? (i := 11) rfl))) (Or.inl (hw _ (List.mem_of_getElem? (i := 28) rfl))) (by decide) (t := (.array .boolean)) (t' := .int) (by decide) (by decide)))
    have f196 := f186.other W193 (Or.inr (slot_ne (Or.inr (hw _ (List.mem_of_getElem? (i := 13) rfl))) (Or.inl (hw _ (List.mem_of_getElem? (i := 28) rfl))) (by decide) (t := (.array .boolean)) (t' := .int) (by decide) (by decide)))
    have f197 := f187.other W193 (Or.inr (slot_ne (Or.inl (hw _ (List.mem_of_getElem? (i := 24) rfl))) (Or.inl (hw _ (List.mem_of_getElem? (i := 28) rfl))) (by decide) (t := .int) (t' := .int) (by decide) (by decide)))
    have f198 := f189.other W193 (Or.inr (slot_ne (Or.inl (hw _ (List.mem_of_getElem? (i := 30) rfl))) (Or.inl (hw _ (List.mem_of_getElem? (i := 28) rfl))) (by decide) (t := .int) (t' := .int) (by decide) (by decide)))
    have f199 := f190.other W193 (Or.inr (slot_ne (Or.inl (hw _ (List.mem_of_getElem? (i := 26) rfl))) (Or.inl (hw _ (List.mem_of_getElem? (i := 28) rfl))) (by decide) (t := .int) (t' := .int) (by decide) (by decide)))
    have f200 := f191.other W193 (Ne.symm ne_this_fa)
    have f201 := fa183.other W193 (Ne.symm ne_this_sa)
    have N193 := Fr.snoc X193 N183 ge_this
    have SZ193 : n0 ≤ h193.size := by rw [W193.size]; exact SZ183
    have K193 := K183.wr W193 (Or.inl (List.mem_of_getElem? (i := 0) rfl))
    refine own_by st193 ?_
    show own_Go p e below T193 (mkF m 116 #[.val (.ref this), .val (.long q1), .second, .val (.int b3), .val (.int b4)] []) _
    refine own_s_aloadN X193.here hx (hb hby own_d4_116) rfl rfl ?_
    refine own_s_dup X193.here hx (hb hby own_d4_117) rfl ?_
    obtain ⟨T202, X202, e202, st202⟩ := getF X193 hx hZ hown (host := "") (Or.inl (hw _ (List.mem_of_getElem? (i := 29) rfl))) Via.refl e193 f198 (g := (mkF m 118 #[.val (.ref this), .val (.long q1), .second, .val (.int b3), .val (.int b4)] [(.ref this), (.ref this)])) rfl rfl (hb hby own_d4_118)
    refine own_by st202 ?_
    show own_Go p e below T202 (mkF m 121 #[.val (.ref this), .val (.long q1), .second, .val (.int b3), .val (.int b4)] [(.int S_), (.ref this)]) _
    refine own_s_iload X202.here hx (hb hby own_d4_121) rfl ?_
    refine own_by (T' := T202) (g' := (mkF m 131 #[.val (.ref this), .val (.long q1), .second, .val (.int b3), .val (.int b4)] [(.int b4), (.int S_), (.ref this)])) (fun t k => ?_) ?_
    · rcases hb4 with q0 | q0
      · rw [q0] at k ⊢
        refine XS.ifYes X202.here hx rfl (pc0 := 123) (pc' := 130) rfl (hb hby own_d4_123) rfl (Jvm.Free.XT.i0_eq_t rfl) (by decide) (by decide) ?_
        exact XS.iconst X202.here hx rfl (hb hby own_d4_130) k
      · rw [q0] at k ⊢
        refine XS.ifNo X202.here hx rfl (hb hby own_d4_123) rfl (Jvm.Free.XT.i0_eq_f (by decide)) ?_
        refine XS.iconst X202.here hx rfl (hb hby own_d4_126) ?_
        exact XS.goto X202.here hx rfl (pc0 := 127) (pc' := 131) rfl (hb hby own_d4_127) (by decide) (by decide) k
    show own_Go p e below T202 (mkF m 131 #[.val (.ref this), .val (.long q1), .second, .val (.int b3), .val (.int b4)] [(.int b4), (.int S_), (.ref this)]) _
    refine own_s_iadd X202.here hx (hb hby own_d4_131) ?_
    obtain ⟨T203, h203, X203, e203, W203, st203⟩ := putF X202 hx hZ hown (host := "") (Or.inl (hw _ (List.mem_of_getElem? (i := 29) rfl))) Via.refl e202 f198 f194 (Or.inl (hw _ (List.mem_of_getElem? (i := 30) rfl))) (hw _ (List.mem_of_getElem? (i := 1) rfl)) (ty := .int) (by decide) rfl rfl (g := (mkF m 132 #[.val (.ref this), .val (.long q1), .second, .val (.int b3), .val (.int b4)] [(.int (S_ + b4)), (.ref this)])) rfl rfl (hb hby own_d4_132)
    have fw203 := f198.same W203
    have f204 := f194.wr W203
    have f205 := f195.other W203 (Or.inr (slot_ne (Or.inr (hw _ (List.mem_of_getElem? (i := 11) rfl))) (Or.inl (hw _ (List.mem_of_getElem? (i := 30) rfl))) (by decide) (t := (.array .boolean)) (t' := .int) (by decide) (by decide)))
    have f206 := f196.other W203 (Or.inr (slot_ne (Or.inr (hw _ (List.mem_of_getElem? (i := 13) rfl))) (Or.inl (hw _ (List.mem_of_getElem? (i := 30) rfl))) (by decide) (t := (.array .boolean)) (t' := .int) (by decide) (by decide)))
    have f207 := f197.other W203 (Or.inr (slot_ne (Or.inl (hw _ (List.mem_of_getElem? (i := 24) rfl))) (Or.inl (hw _ (List.mem_of_getElem? (i := 30) rfl))) (by decide) (t := .int) (t' := .int) (by decide) (by decide)))
    have f208 := fw193.other W203 (Or.inr (slot_ne (Or.inl (hw _ (List.mem_of_getElem? (i := 28) rfl))) (Or.inl (hw _ (List.mem_of_getElem? (i := 30) rfl))) (by decide) (t := .int) (t' := .int) (by decide) (by decide)))
    have f209 := f199.other W203 (Or.inr (slot_ne (Or.inl (hw _ (List.mem_of_getElem? (i := 26) rfl))) (Or.inl (hw _ (List.mem_of_getElem? (i := 30) rfl))) (by decide) (t := .int) (t' := .int) (by decide) (by decide)))
    have f210 := f200.other W203 (Ne.symm ne_this_fa)
    have f211 := f201.other W203 (Ne.symm ne_this_sa)
    have N203 := Fr.snoc X203 N193 ge_this
    have SZ203 : n0 ≤ h203.size := by rw [W203.size]; exact SZ193
    have K203 := K193.wr W203 (Or.inl (List.mem_of_getElem? (i := 0) rfl))
    refine own_by st203 ?_
    show own_Go p e below T203 (mkF m 135 #[.val (.ref this), .val (.long q1), .second, .val (.int b3), .val (.int b4)] []) _
    refine own_s_aloadN X203.here hx (hb hby own_d4_135) rfl rfl ?_
    refine own_s_aloadN X203.here hx (hb hby own_d4_136) rfl rfl ?_
    obtain ⟨T212, X212, e212, st212⟩ := getF X203 hx hZ hown (host := "") (Or.inl (hw _ (List.mem_of_getElem? (i := 25) rfl))) Via.refl e203 f209 (g := (mkF m 137 #[.val (.ref this), .val (.long q1), .second, .val (.int b3), .val (.int b4)] [(.ref this), (.ref this)])) rfl rfl (hb hby own_d4_137)
    refine own_by st212 ?_
    show own_Go p e below T212 (mkF m 140 #[.val (.ref this), .val (.long q1), .second, .val (.int b3), .val (.int b4)] [(.int x_), (.ref this)]) _
    refine own_s_iconst X212.here hx (1 : Int32) (hb hby own_d4_140) rfl ?_
    refine own_s_iadd X212.here hx (hb hby own_d4_141) ?_
    refine own_s_aloadN X212.here hx (hb hby own_d4_142) rfl rfl ?_
    obtain ⟨T213, X213, e213, st213⟩ := getF X212 hx hZ hown (host := "") (Or.inl (hw _ (List.mem_of_getElem? (i := 10) rfl))) Via.refl e212 f205 (g := (mkF m 143 #[.val (.ref this), .val (.long q1), .second, .val (.int b3), .val (.int b4)] [(.ref this), (.int (x_ + (1 : Int32))), (.ref this)])) rfl rfl (hb hby own_d4_143)
    refine own_by st213 ?_
    show own_Go p e below T213 (mkF m 146 #[.val (.ref this), .val (.long q1), .second, .val (.int b3), .val (.int b4)] [(.ref fa), (.int (x_ + (1 : Int32))), (.ref this)]) _
    refine own_by (fun tq_ kq_ => own_len X213 hx hZ e213 f210 (z := z) hz (g := (mkF m 146 #[.val (.ref this), .val (.long q1), .second, .val (.int b3), .val (.int b4)] [(.ref fa), (.int (x_ + (1 : Int32))), (.ref this)])) rfl rfl (hb hby own_d4_146) tq_ kq_) ?_
    show own_Go p e below T213 (mkF m 147 #[.val (.ref this), .val (.long q1), .second, .val (.int b3), .val (.int b4)] [(.int z), (.int (x_ + (1 : Int32))), (.ref this)]) _
    by_cases hc147 : (x_ + (1 : Int32)) = z
    ·
      refine own_s_icmpNo X213.here hx (hb hby own_d4_147) (Jvm.Free.XT.ii_ne_f hc147) ?_
      refine own_s_iconst X213.here hx (0 : Int32) (hb hby own_d4_150) rfl ?_
      show own_Go p e below T213 (mkF m 151 #[.val (.ref this), .val (.long q1), .second, .val (.int b3), .val (.int b4)] [(.int (0 : Int32)), (.ref this)]) _
      refine own_s_goto X213.here hx 160 (hb hby own_d4_151) (by decide) (by decide) ?_
      obtain ⟨T214, h214, X214, e214, W214, st214⟩ := putF X213 hx hZ hown (host := "") (Or.inl (hw _ (List.mem_of_getElem? (i := 25) rfl))) Via.refl e213 f209 f204 (Or.inl (hw _ (List.mem_of_getElem? (i := 26) rfl))) (hw _ (List.mem_of_getElem? (i := 1) rfl)) (ty := .int) (by decide) rfl rfl (g := (mkF m 160 #[.val (.ref this), .val (.long q1), .second, .val (.int b3), .val (.int b4)] [(.int (0 : Int32)), (.ref this)])) rfl rfl (hb hby own_d4_160)
      have fw214 := f209.same W214
      have f215 := f204.wr W214
      have f216 := f205.other W214 (Or.inr (slot_ne (Or.inr (hw _ (List.mem_of_getElem? (i := 11) rfl))) (Or.inl (hw _ (List.mem_of_getElem? (i := 26) rfl))) (by decide) (t := (.array .boolean)) (t' := .int) (by decide) (by decide)))
      have f217 := f206.other W214 (Or.inr (slot_ne (Or.inr (hw _ (List.mem_of_getElem? (i := 13) rfl))) (Or.inl (hw _ (List.mem_of_getElem? (i := 26) rfl))) (by decide) (t := (.array .boolean)) (t' := .int) (by decide) (by decide)))
      have f218 := f207.other W214 (Or.inr (slot_ne (Or.inl (hw _ (List.mem_of_getElem? (i := 24) rfl))) (Or.inl (hw _ (List.mem_of_getElem? (i := 26) rfl))) (by decide) (t := .int) (t' := .int) (by decide) (by decide)))
      have f219 := f208.other W214 (Or.inr (slot_ne (Or.inl (hw _ (List.mem_of_getElem? (i := 28) rfl))) (Or.inl (hw _ (List.mem_of_getElem? (i := 26) rfl))) (by decide) (t := .int) (t' := .int) (by decide) (by decide)))
      have f220 := fw203.other W214 (Or.inr (slot_ne (Or.inl (hw _ (List.mem_of_getElem? (i := 30) rfl))) (Or.inl (hw _ (List.mem_of_getElem? (i := 26) rfl))) (by decide) (t := .int) (t' := .int) (by decide) (by decide)))
      have f221 := f210.other W214 (Ne.symm ne_this_fa)
      have f222 := f211.other W214 (Ne.symm ne_this_sa)
      have N214 := Fr.snoc X214 N203 ge_this
      have SZ214 : n0 ≤ h214.size := by rw [W214.size]; exact SZ203
      have K214 := K203.wr W214 (Or.inl (List.mem_of_getElem? (i := 0) rfl))
      refine own_by st214 ?_
      show own_Go p e below T214 (mkF m 163 #[.val (.ref this), .val (.long q1), .second, .val (.int b3), .val (.int b4)] []) _
      refine own_retV X214 hx hret hlk (hb hby own_d4_163) (by decide) (by decide) ?_
      rw [e214]
      have qa := f221
      rw [own_and1 hb3] at qa
      have qs := f222
      rw [own_and1 hb4] at qs
      have e1 : own_nc c_ z = (c_ + (1 : Int32)) := by unfold own_nc; rw [if_neg hc9]
      have e2 : own_nf F_ c_ z vf b3 = (F_ + b3) := by unfold own_nf; rw [if_neg hc9]
      have e3 : own_nf S_ c_ z vs b4 = (S_ + b4) := by unfold own_nf; rw [if_neg hc9]
      have e4 : own_nx x_ z = (0 : Int32) := by unfold own_nx; rw [if_pos hc147]
      rw [e1, e2, e3, e4]
      exact ⟨rfl, N214, K214, f216, f217, f218, f219, f220, fw214, qa, qs⟩
    ·
      refine own_s_icmpYes X213.here hx 154 (hb hby own_d4_147) (Jvm.Free.XT.ii_ne_t hc147) (by decide) (by decide) ?_
      refine own_s_aloadN X213.here hx (hb hby own_d4_154) rfl rfl ?_
      obtain ⟨T223, X223, e223, st223⟩ := getF X213 hx hZ hown (host := "") (Or.inl (hw _ (List.mem_of_getElem? (i := 25) rfl))) Via.refl e213 f209 (g := (mkF m 155 #[.val (.ref this), .val (.long q1), .second, .val (.int b3), .val (.int b4)] [(.ref this), (.ref this)])) rfl rfl (hb hby own_d4_155)
      refine own_by st223 ?_
      show own_Go p e below T223 (mkF m 158 #[.val (.ref this), .val (.long q1), .second, .val (.int b3), .val (.int b4)] [(.int x_), (.ref this)]) _
      refine own_s_iconst X223.here hx (1 : Int32) (hb hby own_d4_158) rfl ?_
      refine own_s_iadd X223.here hx (hb hby own_d4_159) ?_
      obtain ⟨T224, h224, X224, e224, W224, st224⟩ := putF X223 hx hZ hown (host := "") (Or.inl (hw _ (List.mem_of_getElem? (i := 25) rfl))) Via.refl e223 f209 f204 (Or.inl (hw _ (List.mem_of_getElem? (i := 26) rfl))) (hw _ (List.mem_of_getElem? (i := 1) rfl)) (ty := .int) (by decide) rfl rfl (g := (mkF m 160 #[.val (.ref this), .val (.long q1), .second, .val (.int b3), .val (.int b4)] [(.int (x_ + (1 : Int32))), (.ref this)])) rfl rfl (hb hby own_d4_160)
      have fw224 := f209.same W224
      have f225 := f204.wr W224
      have f226 := f205.other W224 (Or.inr (slot_ne (Or.inr (hw _ (List.mem_of_getElem? (i := 11) rfl))) (Or.inl (hw _ (List.mem_of_getElem? (i := 26) rfl))) (by decide) (t := (.array .boolean)) (t' := .int) (by decide) (by decide)))
      have f227 := f206.other W224 (Or.inr (slot_ne (Or.inr (hw _ (List.mem_of_getElem? (i := 13) rfl))) (Or.inl (hw _ (List.mem_of_getElem? (i := 26) rfl))) (by decide) (t := (.array .boolean)) (t' := .int) (by decide) (by decide)))
      have f228 := f207.other W224 (Or.inr (slot_ne (Or.inl (hw _ (List.mem_of_getElem? (i := 24) rfl))) (Or.inl (hw _ (List.mem_of_getElem? (i := 26) rfl))) (by decide) (t := .int) (t' := .int) (by decide) (by decide)))
      have f229 := f208.other W224 (Or.inr (slot_ne (Or.inl (hw _ (List.mem_of_getElem? (i := 28) rfl))) (Or.inl (hw _ (List.mem_of_getElem? (i := 26) rfl))) (by decide) (t := .int) (t' := .int) (by decide) (by decide)))
      have f230 := fw203.other W224 (Or.inr (slot_ne (Or.inl (hw _ (List.mem_of_getElem? (i := 30) rfl))) (Or.inl (hw _ (List.mem_of_getElem? (i := 26) rfl))) (by decide) (t := .int) (t' := .int) (by decide) (by decide)))
      have f231 := f210.other W224 (Ne.symm ne_this_fa)
      have f232 := f211.other W224 (Ne.symm ne_this_sa)
      have N224 := Fr.snoc X224 N203 ge_this
      have SZ224 : n0 ≤ h224.size := by rw [W224.size]; exact SZ203
      have K224 := K203.wr W224 (Or.inl (List.mem_of_getElem? (i := 0) rfl))
      refine own_by st224 ?_
      show own_Go p e below T224 (mkF m 163 #[.val (.ref this), .val (.long q1), .second, .val (.int b3), .val (.int b4)] []) _
      refine own_retV X224 hx hret hlk (hb hby own_d4_163) (by decide) (by decide) ?_
      rw [e224]
      have qa := f231
      rw [own_and1 hb3] at qa
      have qs := f232
      rw [own_and1 hb4] at qs
      have e1 : own_nc c_ z = (c_ + (1 : Int32)) := by unfold own_nc; rw [if_neg hc9]
      have e2 : own_nf F_ c_ z vf b3 = (F_ + b3) := by unfold own_nf; rw [if_neg hc9]
      have e3 : own_nf S_ c_ z vs b4 = (S_ + b4) := by unfold own_nf; rw [if_neg hc9]
      have e4 : own_nx x_ z = (x_ + (1 : Int32)) := by unfold own_nx; rw [if_neg hc147]
      rw [e1, e2, e3, e4]
      exact ⟨rfl, N224, K224, f226, f227, f228, f229, f230, fw224, qa, qs⟩
def own_b (b0 b1 b2 b3 b4 : Int32) : Nat → Int32
  | 0 => b0 | 1 => b1 | 2 => b2 | 3 => b3 | _ => b4
def own_X (z : Int32) : Nat → Int32
  | 0 => 0 | k + 1 => own_nx (own_X z k) z
def own_C (z : Int32) : Nat → Int32
  | 0 => 0 | k + 1 => own_nc (own_C z k) z
def own_A (b : Nat → Int32) (z : Int32) : Nat → Nat → Value
  | 0 => (fun _ => (.int (0 : Int32))) | k + 1 => own_upd (own_A b z k) (own_X z k).toNatClampNeg (.int (b k))
def own_int : Value → Int32
  | .int x => x | _ => 0
def own_V (b : Nat → Int32) (z : Int32) (k : Nat) : Int32 := own_int (own_A b z k (own_X z k).toNatClampNeg)
def own_F (b : Nat → Int32) (z : Int32) : Nat → Int32
  | 0 => 0 | k + 1 => own_nf (own_F b z k) (own_C z k) z (own_V b z k) (b k)
theorem own_A_bit (b : Nat → Int32) (z : Int32) (hb : ∀ i, b i = 0 ∨ b i = 1) (k i : Nat) : ∃ v : Int32, own_A b z k i = .int v ∧ (v = 0 ∨ v = 1) := by
  induction k with
  | zero => exact ⟨0, rfl, Or.inl rfl⟩
  | succ k ih =>
    by_cases q : i = (own_X z k).toNatClampNeg
    · exact ⟨b k, own_upd_hit q, hb k⟩
    · obtain ⟨v, h1, h2⟩ := ih
      exact ⟨v, (own_upd_miss q).trans h1, h2⟩
theorem own_V_eq (b : Nat → Int32) (z : Int32) (hb : ∀ i, b i = 0 ∨ b i = 1) (k : Nat) : own_A b z k (own_X z k).toNatClampNeg = .int (own_V b z k) ∧ (own_V b z k = 0 ∨ own_V b z k = 1) := by
  obtain ⟨v, h1, h2⟩ := own_A_bit b z hb k (own_X z k).toNatClampNeg
  have e : own_V b z k = v := by unfold own_V; rw [h1]; rfl
  rw [e]
  exact ⟨h1, h2⟩
theorem own_b_bit {b0 b1 b2 b3 b4 : Int32} (h0 : b0 = 0 ∨ b0 = 1) (h1 : b1 = 0 ∨ b1 = 1) (h2 : b2 = 0 ∨ b2 = 1) (h3 : b3 = 0 ∨ b3 = 1) (h4 : b4 = 0 ∨ b4 = 1) : ∀ i, own_b b0 b1 b2 b3 b4 i = 0 ∨ own_b b0 b1 b2 b3 b4 i = 1
  | 0 => h0 | 1 => h1 | 2 => h2 | 3 => h3 | _ + 4 => h4
theorem own_sz (z : Int32) (h1 : 1 ≤ z.toInt) (h2 : z.toInt ≤ 4) : ∃ j : Fin 4, z = Int32.ofNat (j.val + 1) := by
  refine ⟨⟨(z.toInt - 1).toNat, by omega⟩, Int32.toInt_inj.mp ?_⟩
  rw [Int32.toInt_ofNat_small (by show (z.toInt - 1).toNat + 1 < _; omega)]
  show z.toInt = (((z.toInt - 1).toNat + 1 : Nat) : Int)
  omega
theorem own_Xlt : ∀ (j : Fin 4) (k : Fin 6), ¬ own_X (Int32.ofNat (j.val + 1)) k.val < 0 ∧ (own_X (Int32.ofNat (j.val + 1)) k.val).toNatClampNeg < (Int32.ofNat (j.val + 1)).toNatClampNeg := by decide +kernel
theorem own_Xlt' (z : Int32) (h1 : 1 ≤ z.toInt) (h2 : z.toInt ≤ 4) (k : Nat) (hk : k < 6) : own_At (own_X z k) (own_X z k).toNatClampNeg ∧ (own_X z k).toNatClampNeg < z.toNatClampNeg := by
  obtain ⟨j, rfl⟩ := own_sz z h1 h2
  have q := own_Xlt j ⟨k, hk⟩
  exact ⟨⟨q.1, rfl⟩, q.2⟩
def own_h (lo n i c : Int32) : Int64 := (if i < lo then (0 : Int64) else (if i < n then (if c = 0 then (0 : Int64) else (1 : Int64)) else (0 : Int64)))
def own_sum (lo n b0 b1 b2 b3 b4 : Int32) : Int64 := ((((own_h lo n (0 : Int32) b0 + own_h lo n (1 : Int32) b1) + own_h lo n (2 : Int32) b2) + own_h lo n (3 : Int32) b3) + own_h lo n (4 : Int32) b4)
def own_bi (c : Fin 2) : Int32 := Int32.ofNat c.val
theorem own_all : ∀ (j : Fin 4) (k : Fin 6), (own_C (Int32.ofNat (j.val + 1)) k.val).toInt64 = (own_f8 (Int32.ofNat k.val) (Int32.ofNat (j.val + 1))).toInt64 ∧ ∀ (c0 c1 c2 c3 c4 : Fin 2), (own_F (own_b (own_bi c0) (own_bi c1) (own_bi c2) (own_bi c3) (own_bi c4)) (Int32.ofNat (j.val + 1)) k.val).toInt64 = own_sum (Int32.ofNat k.val - own_f8 (Int32.ofNat k.val) (Int32.ofNat (j.val + 1))) (Int32.ofNat k.val) (own_bi c0) (own_bi c1) (own_bi c2) (own_bi c3) (own_bi c4) := by decide +kernel
theorem own_bi_of {b : Int32} (h : b = 0 ∨ b = 1) : ∃ c : Fin 2, b = own_bi c := by
  rcases h with rfl | rfl
  · exact ⟨0, by decide⟩
  · exact ⟨1, by decide⟩
theorem own_fin {z n b0 b1 b2 b3 b4 : Int32} {k : Nat} (hk : k < 6) (hn : n = Int32.ofNat k) (h1 : 1 ≤ z.toInt) (h2 : z.toInt ≤ 4) (g0 : b0 = 0 ∨ b0 = 1) (g1 : b1 = 0 ∨ b1 = 1) (g2 : b2 = 0 ∨ b2 = 1) (g3 : b3 = 0 ∨ b3 = 1) (g4 : b4 = 0 ∨ b4 = 1) :
    (own_F (own_b b0 b1 b2 b3 b4) z k).toInt64 = own_sum (n - own_f8 n z) n b0 b1 b2 b3 b4 := by
  obtain ⟨j, rfl⟩ := own_sz z h1 h2
  obtain ⟨c0, rfl⟩ := own_bi_of g0
  obtain ⟨c1, rfl⟩ := own_bi_of g1
  obtain ⟨c2, rfl⟩ := own_bi_of g2
  obtain ⟨c3, rfl⟩ := own_bi_of g3
  obtain ⟨c4, rfl⟩ := own_bi_of g4
  subst hn
  exact (own_all j ⟨k, hk⟩).2 c0 c1 c2 c3 c4
theorem own_finc {z n : Int32} {k : Nat} (hk : k < 6) (hn : n = Int32.ofNat k) (h1 : 1 ≤ z.toInt) (h2 : z.toInt ≤ 4) : (own_C z k).toInt64 = (own_f8 n z).toInt64 := by
  obtain ⟨j, rfl⟩ := own_sz z h1 h2
  subst hn
  exact (own_all j ⟨k, hk⟩).1
theorem own_bit01 (u v : Int32) : own_f3 u v = 0 ∨ own_f3 u v = 1 := by
  unfold own_f3
  split
  · exact Or.inl rfl
  · exact Or.inr rfl
theorem own_sizeb (x : Int32) : 1 ≤ ((x &&& (3 : Int32)) + (1 : Int32)).toInt ∧ ((x &&& (3 : Int32)) + (1 : Int32)).toInt ≤ 4 := by
  have e1 : (x &&& (3 : Int32)).toInt = x.toInt % 2 ^ 2 := Jvm.Kit.i32_mask x _ (k := 2) (by decide) (by decide)
  have c1 : (1 : Int32).toInt = 1 := by decide
  rw [Jvm.Kit.i32_add (by rw [e1, c1]; omega) (by rw [e1, c1]; omega), e1, c1]
  omega
theorem own_nb (x : Int32) : 0 ≤ ((x &&& (7 : Int32)) % (6 : Int32)).toInt ∧ ((x &&& (7 : Int32)) % (6 : Int32)).toInt < 6 := by
  have e1 : (x &&& (7 : Int32)).toInt = x.toInt % 2 ^ 3 := Jvm.Kit.i32_mask x _ (k := 3) (by decide) (by decide)
  rw [Jvm.Kit.i32_rem_nonneg (by omega), show (6 : Int32).toInt = 6 from by decide]
  omega
theorem own_z4 {z : Int32} (h1 : 1 ≤ z.toInt) (h2 : z.toInt ≤ 4) : ¬ z < 0 ∧ z.toNatClampNeg ≤ 4 ∧ z.toNatClampNeg.toInt32 = z := by
  have q : ¬ z < 0 := by rw [Int32.lt_iff_toInt_lt, show (0 : Int32).toInt = 0 from by decide]; omega
  exact ⟨q, by simp only [Int32.toNatClampNeg]; omega, (back32 q).1⟩
theorem own_pd_4 : parseMethodDescriptor "(J)Lcom/example/fairlead/fairlead/model/BreakerCounts;" = some ⟨[.long], some (.object "com/example/fairlead/fairlead/model/BreakerCounts")⟩ := by decide +kernel
theorem own_pd_6 : parseMethodDescriptor "(II)I" = some ⟨[.int, .int], some .int⟩ := by decide +kernel
theorem own_pd_7 : parseMethodDescriptor "(IIIII)J" = some ⟨[.int, .int, .int, .int, .int], some .long⟩ := by decide +kernel
theorem own_pd_8 : parseMethodDescriptor "()J" = some ⟨[], some .long⟩ := by decide +kernel
set_option maxRecDepth 65536 in
set_option maxHeartbeats 40000000 in
theorem own_p140 {p : Program} {l : Launch} {e : Env} {s : State} {m : MethodId} {args : Array Value} {below : List Frame} {meth : Method} {c : Code} {Z : State} {a0 : Array Value} {n0 : Nat} (hx : p.tables.exec = Jvm.exec) (hZ : Z.Warmed39 s.vm) (hw : ∀ d ∈ tables_1, d.before a0 Z = true) (hby : c.code = code) (hml : c.maxLocals = 15) (hown : s.vm.findClass "com/example/fairlead/fairlead/policy/CountWindowRecordPinLaw" = some m.cls) (hnm : meth.name = "law") (hret : meth.sig.returnType = (some .boolean)) (hlk : meth.locks = false) (s0 n1 bt z n_ : Int32) (nw : Int64) (wd : Addr) (k : Nat) {T0 : State} {locs : List Loc} {h0 : Heap} (X0 : Stand p l e room_1 s m args below meth c T0 locs 3 14) (e0 : T0.heap = h0) (N0 : Fr n0 locs) (Z0 : n0 ≤ h0.size) (hk : k < 6) (hn : n_ = Int32.ofNat k) (hz1 : 1 ≤ z.toInt) (hz2 : z.toInt ≤ 4) (E_wd : Exa Z h0 wd "com/example/fairlead/fairlead/policy/CountWindow") (F_wd_calls : Fld Z h0 wd "com/example/fairlead/fairlead/policy/CountWindow" "calls" "I" (.int (own_C z k))) (F_wd_failures : Fld Z h0 wd "com/example/fairlead/fairlead/policy/CountWindow" "failures" "I" (.int (own_F (own_b (own_f3 bt (0 : Int32)) (own_f3 bt (2 : Int32)) (own_f3 bt (4 : Int32)) (own_f3 bt (6 : Int32)) (own_f3 bt (8 : Int32))) z k))) (F_wd_slowCalls : Fld Z h0 wd "com/example/fairlead/fairlead/policy/CountWindow" "slowCalls" "I" (.int (own_F (own_b (own_f3 bt (1 : Int32)) (own_f3 bt (3 : Int32)) (own_f3 bt (5 : Int32)) (own_f3 bt (7 : Int32)) (own_f3 bt (9 : Int32))) z k))) :
    own_Go p e below T0 (mkF m 140 #[.val (.int s0), .val (.int n1), .val (.int bt), .val (.long nw), .second, .val (.int z), .val (.int n_), .val (.ref wd), .unset, .unset, .unset, .unset, .unset, .unset, .unset] []) (own_Fin s (fun (v : Option Value) (h : Heap) (L : List Loc) => v = some (.int 1) ∧ Fr n0 L) 16 128) := by
  show own_Go p e below T0 (mkF m 140 #[.val (.int s0), .val (.int n1), .val (.int bt), .val (.long nw), .second, .val (.int z), .val (.int n_), .val (.ref wd), .unset, .unset, .unset, .unset, .unset, .unset, .unset] []) _
  refine own_s_aload X0.here hx (hb hby at_140) rfl rfl ?_
  refine own_s_lloadN X0.here hx (hb hby at_142) rfl ?_
  obtain ⟨cq233, kq233, q233a, q233b, q233c⟩ := isOf hZ e0 E_wd
  obtain ⟨_, _, ⟨T233, L233, k233, n233⟩, -, X233, ⟨Lc233, hQ233, l233, y233, z233⟩, st233⟩ := X0.virtualBack hx (y := (⟨"com/example/fairlead/fairlead/policy/CountWindow", "counts", "(J)Lcom/example/fairlead/fairlead/model/BreakerCounts;"⟩ : MethodName)) (z := (⟨"com/example/fairlead/fairlead/policy/CountWindow", "counts", "(J)Lcom/example/fairlead/fairlead/model/BreakerCounts;"⟩ : MethodName)) hown (mvT hZ (hw _ (List.mem_of_getElem? (i := 31) rfl))) (mvT hZ (hw _ (List.mem_of_getElem? (i := 32) rfl))) (notFace_of_selects (args := #[]) (mvT hZ (hw _ (List.mem_of_getElem? (i := 34) rfl)))) (mvT hZ (hw _ (List.mem_of_getElem? (i := 34) rfl))) (mvT hZ (hw _ (List.mem_of_getElem? (i := 33) rfl))) (by decide) (backOf (W := 0) (own_r5 l Z a0 hw [] wd nw (own_C z k) (own_F (own_b (own_f3 bt (0 : Int32)) (own_f3 bt (2 : Int32)) (own_f3 bt (4 : Int32)) (own_f3 bt (6 : Int32)) (own_f3 bt (8 : Int32))) z k) (own_F (own_b (own_f3 bt (1 : Int32)) (own_f3 bt (3 : Int32)) (own_f3 bt (5 : Int32)) (own_f3 bt (7 : Int32)) (own_f3 bt (9 : Int32))) z k) h0 n0 Z0 F_wd_calls F_wd_failures F_wd_slowCalls) hZ (hw _ (List.mem_of_getElem? (i := 35) rfl)) (hw _ (List.mem_of_getElem? (i := 2) rfl)) (by decide) (by decide)) q233a q233c (g := (mkF m 143 #[.val (.int s0), .val (.int n1), .val (.int bt), .val (.long nw), .second, .val (.int z), .val (.int n_), .val (.ref wd), .unset, .unset, .unset, .unset, .unset, .unset, .unset] [(.long nw), (.ref wd)])) rfl (by rw [hml]; rfl) (Steps.refl _) (argsL := [(.long nw)]) (rest := []) (lenOf own_pd_4 rfl) rfl (by show 2 * 0 + _ ≤ _; exact Nat.le_of_eq rfl) (hb hby at_143) (fun _ _ => ⟨rfl, e0, (by decide : 3 + 1 ≤ _), (by decide : 14 + 3 ≤ _)⟩)
  dsimp only [Pt.U, Pt.locs, Pt.cells, Pt.slots] at X233 l233 y233 z233 st233 hQ233
  subst l233 y233 z233
  obtain ⟨bb233, rfl, N233q, gb233, K233, eb233, fa233, fb233, fc233⟩ := hQ233
  have N233 := Fr.app N0 N233q
  have f234 := E_wd.keep K233
  have f235 := F_wd_calls.keep K233 nin0
  have f236 := F_wd_failures.keep K233 nin0
  have f237 := F_wd_slowCalls.keep K233 nin0
  have SZ233 : n0 ≤ T233.heap.size := Nat.le_trans Z0 K233.1
  refine own_by (fun t k => st233.trans k) ?_
  show own_Go p e below T233 (mkF m 146 #[.val (.int s0), .val (.int n1), .val (.int bt), .val (.long nw), .second, .val (.int z), .val (.int n_), .val (.ref wd), .unset, .unset, .unset, .unset, .unset, .unset, .unset] [(.ref bb233)]) _
  refine own_s_astore X233.here hx #[.val (.int s0), .val (.int n1), .val (.int bt), .val (.long nw), .second, .val (.int z), .val (.int n_), .val (.ref wd), .val (.ref bb233), .unset, .unset, .unset, .unset, .unset, .unset] (hb hby at_146) rfl rfl ?_
  refine own_s_iload X233.here hx (hb hby at_148) rfl ?_
  refine own_s_iload X233.here hx (hb hby at_150) rfl ?_
  obtain ⟨_, _, ⟨T238, L238, k238, n238⟩, -, X238, ⟨Lc238, hQ238, l238, y238, z238⟩, st238⟩ := Jvm.LawKit.callS X233 hx (y := (⟨"java/lang/Math", "min", "(II)I"⟩ : MethodName)) hown (mvT hZ (hw _ (List.mem_of_getElem? (i := 54) rfl))) (mvT hZ (hw _ (List.mem_of_getElem? (i := 55) rfl))) (mvT hZ (hw _ (List.mem_of_getElem? (i := 56) rfl))) (mvT hZ (hw _ (List.mem_of_getElem? (i := 57) rfl))) (by decide) (backOf (W := 0) (own_r8 l Z a0 hw [] n_ z  T233.heap n0 SZ233 ) hZ (hw _ (List.mem_of_getElem? (i := 57) rfl)) (hw _ (List.mem_of_getElem? (i := 56) rfl)) (by decide) (by decide)) (g := (mkF m 152 #[.val (.int s0), .val (.int n1), .val (.int bt), .val (.long nw), .second, .val (.int z), .val (.int n_), .val (.ref wd), .val (.ref bb233), .unset, .unset, .unset, .unset, .unset, .unset] [(.int z), (.int n_)])) rfl (by rw [hml]; rfl) (argsL := [(.int n_), (.int z)]) (rest := []) (lenOf own_pd_6 rfl) rfl (by show 2 * 0 + _ ≤ _; exact Nat.le_of_eq rfl) (hb hby at_152) (fun _ _ => ⟨rfl, rfl, (by decide : 4 + 0 ≤ _), (by decide : 17 + 0 ≤ _)⟩)
  dsimp only [Pt.U, Pt.locs, Pt.cells, Pt.slots] at X238 l238 y238 z238 st238 hQ238
  subst l238 y238 z238
  obtain ⟨rfl, N238q, e238⟩ := hQ238
  have N238 := Fr.app N233 N238q
  refine own_by st238 ?_
  show own_Go p e below T238 (mkF m 155 #[.val (.int s0), .val (.int n1), .val (.int bt), .val (.long nw), .second, .val (.int z), .val (.int n_), .val (.ref wd), .val (.ref bb233), .unset, .unset, .unset, .unset, .unset, .unset] [(.int (own_f8 n_ z))]) _
  refine own_s_istore X238.here hx #[.val (.int s0), .val (.int n1), .val (.int bt), .val (.long nw), .second, .val (.int z), .val (.int n_), .val (.ref wd), .val (.ref bb233), .val (.int (own_f8 n_ z)), .unset, .unset, .unset, .unset, .unset] (hb hby at_155) rfl ?_
  refine own_s_iload X238.here hx (hb hby at_157) rfl ?_
  refine own_s_iload X238.here hx (hb hby at_159) rfl ?_
  refine own_s_isub X238.here hx (hb hby at_161) ?_
  refine own_s_istore X238.here hx #[.val (.int s0), .val (.int n1), .val (.int bt), .val (.long nw), .second, .val (.int z), .val (.int n_), .val (.ref wd), .val (.ref bb233), .val (.int (own_f8 n_ z)), .val (.int (n_ - (own_f8 n_ z))), .unset, .unset, .unset, .unset] (hb hby at_162) rfl ?_
  refine own_s_iload X238.here hx (hb hby at_164) rfl ?_
  refine own_s_iload X238.here hx (hb hby at_166) rfl ?_
  refine own_s_iconst X238.here hx (0 : Int32) (hb hby at_168) rfl ?_
  refine own_s_iloadN X238.here hx (hb hby at_169) rfl ?_
  refine own_s_iconst X238.here hx (0 : Int32) (hb hby at_170) rfl ?_
  obtain ⟨_, _, ⟨T239, L239, k239, n239⟩, -, X239, ⟨Lc239, hQ239, l239, y239, z239⟩, st239⟩ := Jvm.LawKit.callS X238 hx (y := (⟨"com/example/fairlead/fairlead/policy/CountWindowRecordPinLaw", "held", "(IIIII)J"⟩ : MethodName)) hown (mvT hZ (hw _ (List.mem_of_getElem? (i := 58) rfl))) (mvT hZ (hw _ (List.mem_of_getElem? (i := 59) rfl))) (mvT hZ (hw _ (List.mem_of_getElem? (i := 16) rfl))) (mvT hZ (hw _ (List.mem_of_getElem? (i := 60) rfl))) (by decide) (backOf (W := 0) (own_r9 l Z a0 hw [] (n_ - (own_f8 n_ z)) n_ (0 : Int32) bt (0 : Int32)  T233.heap n0 SZ233 ) hZ (hw _ (List.mem_of_getElem? (i := 60) rfl)) (hw _ (List.mem_of_getElem? (i := 16) rfl)) (by decide) (by decide)) (g := (mkF m 171 #[.val (.int s0), .val (.int n1), .val (.int bt), .val (.long nw), .second, .val (.int z), .val (.int n_), .val (.ref wd), .val (.ref bb233), .val (.int (own_f8 n_ z)), .val (.int (n_ - (own_f8 n_ z))), .unset, .unset, .unset, .unset] [(.int (0 : Int32)), (.int bt), (.int (0 : Int32)), (.int n_), (.int (n_ - (own_f8 n_ z)))])) rfl (by rw [hml]; rfl) (argsL := [(.int (n_ - (own_f8 n_ z))), (.int n_), (.int (0 : Int32)), (.int bt), (.int (0 : Int32))]) (rest := []) (lenOf own_pd_7 rfl) rfl (by show 2 * 0 + _ ≤ _; exact Nat.le_of_eq rfl) (hb hby at_171) (fun _ _ => ⟨rfl, e238, (by decide : 4 + 0 ≤ _), (by decide : 17 + 0 ≤ _)⟩)
  dsimp only [Pt.U, Pt.locs, Pt.cells, Pt.slots] at X239 l239 y239 z239 st239 hQ239
  subst l239 y239 z239
  obtain ⟨rfl, N239q, e239⟩ := hQ239
  have N239 := Fr.app N238 N239q
  refine own_by st239 ?_
  show own_Go p e below T239 (mkF m 174 #[.val (.int s0), .val (.int n1), .val (.int bt), .val (.long nw), .second, .val (.int z), .val (.int n_), .val (.ref wd), .val (.ref bb233), .val (.int (own_f8 n_ z)), .val (.int (n_ - (own_f8 n_ z))), .unset, .unset, .unset, .unset] [(.long (own_f9 (n_ - (own_f8 n_ z)) n_ (0 : Int32) bt (0 : Int32)))]) _
  refine own_s_iload X239.here hx (hb hby at_174) rfl ?_
  refine own_s_iload X239.here hx (hb hby at_176) rfl ?_
  refine own_s_iconst X239.here hx (1 : Int32) (hb hby at_178) rfl ?_
  refine own_s_iloadN X239.here hx (hb hby at_179) rfl ?_
  refine own_s_iconst X239.here hx (2 : Int32) (hb hby at_180) rfl ?_
  obtain ⟨_, _, ⟨T240, L240, k240, n240⟩, -, X240, ⟨Lc240, hQ240, l240, y240, z240⟩, st240⟩ := Jvm.LawKit.callS X239 hx (y := (⟨"com/example/fairlead/fairlead/policy/CountWindowRecordPinLaw", "held", "(IIIII)J"⟩ : MethodName)) hown (mvT hZ (hw _ (List.mem_of_getElem? (i := 58) rfl))) (mvT hZ (hw _ (List.mem_of_getElem? (i := 59) rfl))) (mvT hZ (hw _ (List.mem_of_getElem? (i := 16) rfl))) (mvT hZ (hw _ (List.mem_of_getElem? (i := 60) rfl))) (by decide) (backOf (W := 2) (own_r9 l Z a0 hw [] (n_ - (own_f8 n_ z)) n_ (1 : Int32) bt (2 : Int32)  T233.heap n0 SZ233 ) hZ (hw _ (List.mem_of_getElem? (i := 60) rfl)) (hw _ (List.mem_of_getElem? (i := 16) rfl)) (by decide) (by decide)) (g := (mkF m 181 #[.val (.int s0), .val (.int n1), .val (.int bt), .val (.long nw), .second, .val (.int z), .val (.int n_), .val (.ref wd), .val (.ref bb233), .val (.int (own_f8 n_ z)), .val (.int (n_ - (own_f8 n_ z))), .unset, .unset, .unset, .unset] [(.int (2 : Int32)), (.int bt), (.int (1 : Int32)), (.int n_), (.int (n_ - (own_f8 n_ z))), (.long (own_f9 (n_ - (own_f8 n_ z)) n_ (0 : Int32) bt (0 : Int32)))])) rfl (by rw [hml]; rfl) (argsL := [(.int (n_ - (own_f8 n_ z))), (.int n_), (.int (1 : Int32)), (.int bt), (.int (2 : Int32))]) (rest := [(.long (own_f9 (n_ - (own_f8 n_ z)) n_ (0 : Int32) bt (0 : Int32)))]) (lenOf own_pd_7 rfl) rfl (by show 2 * 0 + _ ≤ _; exact Nat.le_of_eq rfl) (hb hby at_181) (fun _ _ => ⟨rfl, e239, (by decide : 4 + 0 ≤ _), (by decide : 17 + 0 ≤ _)⟩)
  dsimp only [Pt.U, Pt.locs, Pt.cells, Pt.slots] at X240 l240 y240 z240 st240 hQ240
  subst l240 y240 z240
  obtain ⟨rfl, N240q, e240⟩ := hQ240
  have N240 := Fr.app N239 N240q
  refine own_by st240 ?_
  show own_Go p e below T240 (mkF m 184 #[.val (.int s0), .val (.int n1), .val (.int bt), .val (.long nw), .second, .val (.int z), .val (.int n_), .val (.ref wd), .val (.ref bb233), .val (.int (own_f8 n_ z)), .val (.int (n_ - (own_f8 n_ z))), .unset, .unset, .unset, .unset] [(.long (own_f9 (n_ - (own_f8 n_ z)) n_ (1 : Int32) bt (2 : Int32))), (.long (own_f9 (n_ - (own_f8 n_ z)) n_ (0 : Int32) bt (0 : Int32)))]) _
  refine own_s_ladd X240.here hx (hb hby at_184) ?_
  refine own_s_iload X240.here hx (hb hby at_185) rfl ?_
  refine own_s_iload X240.here hx (hb hby at_187) rfl ?_
  refine own_s_iconst X240.here hx (2 : Int32) (hb hby at_189) rfl ?_
  refine own_s_iloadN X240.here hx (hb hby at_190) rfl ?_
  refine own_s_iconst X240.here hx (4 : Int32) (hb hby at_191) rfl ?_
  obtain ⟨_, _, ⟨T241, L241, k241, n241⟩, -, X241, ⟨Lc241, hQ241, l241, y241, z241⟩, st241⟩ := Jvm.LawKit.callS X240 hx (y := (⟨"com/example/fairlead/fairlead/policy/CountWindowRecordPinLaw", "held", "(IIIII)J"⟩ : MethodName)) hown (mvT hZ (hw _ (List.mem_of_getElem? (i := 58) rfl))) (mvT hZ (hw _ (List.mem_of_getElem? (i := 59) rfl))) (mvT hZ (hw _ (List.mem_of_getElem? (i := 16) rfl))) (mvT hZ (hw _ (List.mem_of_getElem? (i := 60) rfl))) (by decide) (backOf (W := 2) (own_r9 l Z a0 hw [] (n_ - (own_f8 n_ z)) n_ (2 : Int32) bt (4 : Int32)  T233.heap n0 SZ233 ) hZ (hw _ (List.mem_of_getElem? (i := 60) rfl)) (hw _ (List.mem_of_getElem? (i := 16) rfl)) (by decide) (by decide)) (g := (mkF m 192 #[.val (.int s0), .val (.int n1), .val (.int bt), .val (.long nw), .second, .val (.int z), .val (.int n_), .val (.ref wd), .val (.ref bb233), .val (.int (own_f8 n_ z)), .val (.int (n_ - (own_f8 n_ z))), .unset, .unset, .unset, .unset] [(.int (4 : Int32)), (.int bt), (.int (2 : Int32)), (.int n_), (.int (n_ - (own_f8 n_ z))), (.long ((own_f9 (n_ - (own_f8 n_ z)) n_ (0 : Int32) bt (0 : Int32)) + (own_f9 (n_ - (own_f8 n_ z)) n_ (1 : Int32) bt (2 : Int32))))])) rfl (by rw [hml]; rfl) (argsL := [(.int (n_ - (own_f8 n_ z))), (.int n_), (.int (2 : Int32)), (.int bt), (.int (4 : Int32))]) (rest := [(.long ((own_f9 (n_ - (own_f8 n_ z)) n_ (0 : Int32) bt (0 : Int32)) + (own_f9 (n_ - (own_f8 n_ z)) n_ (1 : Int32) bt (2 : Int32))))]) (lenOf own_pd_7 rfl) rfl (by show 2 * 0 + _ ≤ _; exact Nat.le_of_eq rfl) (hb hby at_192) (fun _ _ => ⟨rfl, e240, (by decide : 4 + 0 ≤ _), (by decide : 17 + 0 ≤ _)⟩)
  dsimp only [Pt.U, Pt.locs, Pt.cells, Pt.slots] at X241 l241 y241 z241 st241 hQ241
  subst l241 y241 z241
  obtain ⟨rfl, N241q, e241⟩ := hQ241
  have N241 := Fr.app N240 N241q
  refine own_by st241 ?_
  show own_Go p e below T241 (mkF m 195 #[.val (.int s0), .val (.int n1), .val (.int bt), .val (.long nw), .second, .val (.int z), .val (.int n_), .val (.ref wd), .val (.ref bb233), .val (.int (own_f8 n_ z)), .val (.int (n_ - (own_f8 n_ z))), .unset, .unset, .unset, .unset] [(.long (own_f9 (n_ - (own_f8 n_ z)) n_ (2 : Int32) bt (4 : Int32))), (.long ((own_f9 (n_ - (own_f8 n_ z)) n_ (0 : Int32) bt (0 : Int32)) + (own_f9 (n_ - (own_f8 n_ z)) n_ (1 : Int32) bt (2 : Int32))))]) _
  refine own_s_ladd X241.here hx (hb hby at_195) ?_
  refine own_s_iload X241.here hx (hb hby at_196) rfl ?_
  refine own_s_iload X241.here hx (hb hby at_198) rfl ?_
  refine own_s_iconst X241.here hx (3 : Int32) (hb hby at_200) rfl ?_
  refine own_s_iloadN X241.here hx (hb hby at_201) rfl ?_
  refine own_s_bipush X241.here hx (6 : Int32) (hb hby at_202) rfl ?_
  obtain ⟨_, _, ⟨T242, L242, k242, n242⟩, -, X242, ⟨Lc242, hQ242, l242, y242, z242⟩, st242⟩ := Jvm.LawKit.callS X241 hx (y := (⟨"com/example/fairlead/fairlead/policy/CountWindowRecordPinLaw", "held", "(IIIII)J"⟩ : MethodName)) hown (mvT hZ (hw _ (List.mem_of_getElem? (i := 58) rfl))) (mvT hZ (hw _ (List.mem_of_getElem? (i := 59) rfl))) (mvT hZ (hw _ (List.mem_of_getElem? (i := 16) rfl))) (mvT hZ (hw _ (List.mem_of_getElem? (i := 60) rfl))) (by decide) (backOf (W := 2) (own_r9 l Z a0 hw [] (n_ - (own_f8 n_ z)) n_ (3 : Int32) bt (6 : Int32)  T233.heap n0 SZ233 ) hZ (hw _ (List.mem_of_getElem? (i := 60) rfl)) (hw _ (List.mem_of_getElem? (i := 16) rfl)) (by decide) (by decide)) (g := (mkF m 204 #[.val (.int s0), .val (.int n1), .val (.int bt), .val (.long nw), .second, .val (.int z), .val (.int n_), .val (.ref wd), .val (.ref bb233), .val (.int (own_f8 n_ z)), .val (.int (n_ - (own_f8 n_ z))), .unset, .unset, .unset, .unset] [(.int (6 : Int32)), (.int bt), (.int (3 : Int32)), (.int n_), (.int (n_ - (own_f8 n_ z))), (.long (((own_f9 (n_ - (own_f8 n_ z)) n_ (0 : Int32) bt (0 : Int32)) + (own_f9 (n_ - (own_f8 n_ z)) n_ (1 : Int32) bt (2 : Int32))) + (own_f9 (n_ - (own_f8 n_ z)) n_ (2 : Int32) bt (4 : Int32))))])) rfl (by rw [hml]; rfl) (argsL := [(.int (n_ - (own_f8 n_ z))), (.int n_), (.int (3 : Int32)), (.int bt), (.int (6 : Int32))]) (rest := [(.long (((own_f9 (n_ - (own_f8 n_ z)) n_ (0 : Int32) bt (0 : Int32)) + (own_f9 (n_ - (own_f8 n_ z)) n_ (1 : Int32) bt (2 : Int32))) + (own_f9 (n_ - (own_f8 n_ z)) n_ (2 : Int32) bt (4 : Int32))))]) (lenOf own_pd_7 rfl) rfl (by show 2 * 0 + _ ≤ _; exact Nat.le_of_eq rfl) (hb hby at_204) (fun _ _ => ⟨rfl, e241, (by decide : 4 + 0 ≤ _), (by decide : 17 + 0 ≤ _)⟩)
  dsimp only [Pt.U, Pt.locs, Pt.cells, Pt.slots] at X242 l242 y242 z242 st242 hQ242
  subst l242 y242 z242
  obtain ⟨rfl, N242q, e242⟩ := hQ242
  have N242 := Fr.app N241 N242q
  refine own_by st242 ?_
  show own_Go p e below T242 (mkF m 207 #[.val (.int s0), .val (.int n1), .val (.int bt), .val (.long nw), .second, .val (.int z), .val (.int n_), .val (.ref wd), .val (.ref bb233), .val (.int (own_f8 n_ z)), .val (.int (n_ - (own_f8 n_ z))), .unset, .unset, .unset, .unset] [(.long (own_f9 (n_ - (own_f8 n_ z)) n_ (3 : Int32) bt (6 : Int32))), (.long (((own_f9 (n_ - (own_f8 n_ z)) n_ (0 : Int32) bt (0 : Int32)) + (own_f9 (n_ - (own_f8 n_ z)) n_ (1 : Int32) bt (2 : Int32))) + (own_f9 (n_ - (own_f8 n_ z)) n_ (2 : Int32) bt (4 : Int32))))]) _
  refine own_s_ladd X242.here hx (hb hby at_207) ?_
  refine own_s_iload X242.here hx (hb hby at_208) rfl ?_
  refine own_s_iload X242.here hx (hb hby at_210) rfl ?_
  refine own_s_iconst X242.here hx (4 : Int32) (hb hby at_212) rfl ?_
  refine own_s_iloadN X242.here hx (hb hby at_213) rfl ?_
  refine own_s_bipush X242.here hx (8 : Int32) (hb hby at_214) rfl ?_
  obtain ⟨_, _, ⟨T243, L243, k243, n243⟩, -, X243, ⟨Lc243, hQ243, l243, y243, z243⟩, st243⟩ := Jvm.LawKit.callS X242 hx (y := (⟨"com/example/fairlead/fairlead/policy/CountWindowRecordPinLaw", "held", "(IIIII)J"⟩ : MethodName)) hown (mvT hZ (hw _ (List.mem_of_getElem? (i := 58) rfl))) (mvT hZ (hw _ (List.mem_of_getElem? (i := 59) rfl))) (mvT hZ (hw _ (List.mem_of_getElem? (i := 16) rfl))) (mvT hZ (hw _ (List.mem_of_getElem? (i := 60) rfl))) (by decide) (backOf (W := 2) (own_r9 l Z a0 hw [] (n_ - (own_f8 n_ z)) n_ (4 : Int32) bt (8 : Int32)  T233.heap n0 SZ233 ) hZ (hw _ (List.mem_of_getElem? (i := 60) rfl)) (hw _ (List.mem_of_getElem? (i := 16) rfl)) (by decide) (by decide)) (g := (mkF m 216 #[.val (.int s0), .val (.int n1), .val (.int bt), .val (.long nw), .second, .val (.int z), .val (.int n_), .val (.ref wd), .val (.ref bb233), .val (.int (own_f8 n_ z)), .val (.int (n_ - (own_f8 n_ z))), .unset, .unset, .unset, .unset] [(.int (8 : Int32)), (.int bt), (.int (4 : Int32)), (.int n_), (.int (n_ - (own_f8 n_ z))), (.long ((((own_f9 (n_ - (own_f8 n_ z)) n_ (0 : Int32) bt (0 : Int32)) + (own_f9 (n_ - (own_f8 n_ z)) n_ (1 : Int32) bt (2 : Int32))) + (own_f9 (n_ - (own_f8 n_ z)) n_ (2 : Int32) bt (4 : Int32))) + (own_f9 (n_ - (own_f8 n_ z)) n_ (3 : Int32) bt (6 : Int32))))])) rfl (by rw [hml]; rfl) (argsL := [(.int (n_ - (own_f8 n_ z))), (.int n_), (.int (4 : Int32)), (.int bt), (.int (8 : Int32))]) (rest := [(.long ((((own_f9 (n_ - (own_f8 n_ z)) n_ (0 : Int32) bt (0 : Int32)) + (own_f9 (n_ - (own_f8 n_ z)) n_ (1 : Int32) bt (2 : Int32))) + (own_f9 (n_ - (own_f8 n_ z)) n_ (2 : Int32) bt (4 : Int32))) + (own_f9 (n_ - (own_f8 n_ z)) n_ (3 : Int32) bt (6 : Int32))))]) (lenOf own_pd_7 rfl) rfl (by show 2 * 0 + _ ≤ _; exact Nat.le_of_eq rfl) (hb hby at_216) (fun _ _ => ⟨rfl, e242, (by decide : 4 + 0 ≤ _), (by decide : 17 + 0 ≤ _)⟩)
  dsimp only [Pt.U, Pt.locs, Pt.cells, Pt.slots] at X243 l243 y243 z243 st243 hQ243
  subst l243 y243 z243
  obtain ⟨rfl, N243q, e243⟩ := hQ243
  have N243 := Fr.app N242 N243q
  refine own_by st243 ?_
  show own_Go p e below T243 (mkF m 219 #[.val (.int s0), .val (.int n1), .val (.int bt), .val (.long nw), .second, .val (.int z), .val (.int n_), .val (.ref wd), .val (.ref bb233), .val (.int (own_f8 n_ z)), .val (.int (n_ - (own_f8 n_ z))), .unset, .unset, .unset, .unset] [(.long (own_f9 (n_ - (own_f8 n_ z)) n_ (4 : Int32) bt (8 : Int32))), (.long ((((own_f9 (n_ - (own_f8 n_ z)) n_ (0 : Int32) bt (0 : Int32)) + (own_f9 (n_ - (own_f8 n_ z)) n_ (1 : Int32) bt (2 : Int32))) + (own_f9 (n_ - (own_f8 n_ z)) n_ (2 : Int32) bt (4 : Int32))) + (own_f9 (n_ - (own_f8 n_ z)) n_ (3 : Int32) bt (6 : Int32))))]) _
  refine own_s_ladd X243.here hx (hb hby at_219) ?_
  show own_Go p e below T243 (mkF m 220 #[.val (.int s0), .val (.int n1), .val (.int bt), .val (.long nw), .second, .val (.int z), .val (.int n_), .val (.ref wd), .val (.ref bb233), .val (.int (own_f8 n_ z)), .val (.int (n_ - (own_f8 n_ z))), .unset, .unset, .unset, .unset] [(.long (own_sum (n_ - (own_f8 n_ z)) n_ (own_f3 bt (0 : Int32)) (own_f3 bt (2 : Int32)) (own_f3 bt (4 : Int32)) (own_f3 bt (6 : Int32)) (own_f3 bt (8 : Int32))))]) _
  refine own_s_lstore X243.here hx #[.val (.int s0), .val (.int n1), .val (.int bt), .val (.long nw), .second, .val (.int z), .val (.int n_), .val (.ref wd), .val (.ref bb233), .val (.int (own_f8 n_ z)), .val (.int (n_ - (own_f8 n_ z))), .val (.long (own_sum (n_ - (own_f8 n_ z)) n_ (own_f3 bt (0 : Int32)) (own_f3 bt (2 : Int32)) (own_f3 bt (4 : Int32)) (own_f3 bt (6 : Int32)) (own_f3 bt (8 : Int32)))), .second, .unset, .unset] (hb hby at_220) rfl ?_
  refine own_s_iload X243.here hx (hb hby at_222) rfl ?_
  refine own_s_iload X243.here hx (hb hby at_224) rfl ?_
  refine own_s_iconst X243.here hx (0 : Int32) (hb hby at_226) rfl ?_
  refine own_s_iloadN X243.here hx (hb hby at_227) rfl ?_
  refine own_s_iconst X243.here hx (1 : Int32) (hb hby at_228) rfl ?_
  obtain ⟨_, _, ⟨T244, L244, k244, n244⟩, -, X244, ⟨Lc244, hQ244, l244, y244, z244⟩, st244⟩ := Jvm.LawKit.callS X243 hx (y := (⟨"com/example/fairlead/fairlead/policy/CountWindowRecordPinLaw", "held", "(IIIII)J"⟩ : MethodName)) hown (mvT hZ (hw _ (List.mem_of_getElem? (i := 58) rfl))) (mvT hZ (hw _ (List.mem_of_getElem? (i := 59) rfl))) (mvT hZ (hw _ (List.mem_of_getElem? (i := 16) rfl))) (mvT hZ (hw _ (List.mem_of_getElem? (i := 60) rfl))) (by decide) (backOf (W := 0) (own_r9 l Z a0 hw [] (n_ - (own_f8 n_ z)) n_ (0 : Int32) bt (1 : Int32)  T233.heap n0 SZ233 ) hZ (hw _ (List.mem_of_getElem? (i := 60) rfl)) (hw _ (List.mem_of_getElem? (i := 16) rfl)) (by decide) (by decide)) (g := (mkF m 229 #[.val (.int s0), .val (.int n1), .val (.int bt), .val (.long nw), .second, .val (.int z), .val (.int n_), .val (.ref wd), .val (.ref bb233), .val (.int (own_f8 n_ z)), .val (.int (n_ - (own_f8 n_ z))), .val (.long (own_sum (n_ - (own_f8 n_ z)) n_ (own_f3 bt (0 : Int32)) (own_f3 bt (2 : Int32)) (own_f3 bt (4 : Int32)) (own_f3 bt (6 : Int32)) (own_f3 bt (8 : Int32)))), .second, .unset, .unset] [(.int (1 : Int32)), (.int bt), (.int (0 : Int32)), (.int n_), (.int (n_ - (own_f8 n_ z)))])) rfl (by rw [hml]; rfl) (argsL := [(.int (n_ - (own_f8 n_ z))), (.int n_), (.int (0 : Int32)), (.int bt), (.int (1 : Int32))]) (rest := []) (lenOf own_pd_7 rfl) rfl (by show 2 * 0 + _ ≤ _; exact Nat.le_of_eq rfl) (hb hby at_229) (fun _ _ => ⟨rfl, e243, (by decide : 4 + 0 ≤ _), (by decide : 17 + 0 ≤ _)⟩)
  dsimp only [Pt.U, Pt.locs, Pt.cells, Pt.slots] at X244 l244 y244 z244 st244 hQ244
  subst l244 y244 z244
  obtain ⟨rfl, N244q, e244⟩ := hQ244
  have N244 := Fr.app N243 N244q
  refine own_by st244 ?_
  show own_Go p e below T244 (mkF m 232 #[.val (.int s0), .val (.int n1), .val (.int bt), .val (.long nw), .second, .val (.int z), .val (.int n_), .val (.ref wd), .val (.ref bb233), .val (.int (own_f8 n_ z)), .val (.int (n_ - (own_f8 n_ z))), .val (.long (own_sum (n_ - (own_f8 n_ z)) n_ (own_f3 bt (0 : Int32)) (own_f3 bt (2 : Int32)) (own_f3 bt (4 : Int32)) (own_f3 bt (6 : Int32)) (own_f3 bt (8 : Int32)))), .second, .unset, .unset] [(.long (own_f9 (n_ - (own_f8 n_ z)) n_ (0 : Int32) bt (1 : Int32)))]) _
  refine own_s_iload X244.here hx (hb hby at_232) rfl ?_
  refine own_s_iload X244.here hx (hb hby at_234) rfl ?_
  refine own_s_iconst X244.here hx (1 : Int32) (hb hby at_236) rfl ?_
  refine own_s_iloadN X244.here hx (hb hby at_237) rfl ?_
  refine own_s_iconst X244.here hx (3 : Int32) (hb hby at_238) rfl ?_
  obtain ⟨_, _, ⟨T245, L245, k245, n245⟩, -, X245, ⟨Lc245, hQ245, l245, y245, z245⟩, st245⟩ := Jvm.LawKit.callS X244 hx (y := (⟨"com/example/fairlead/fairlead/policy/CountWindowRecordPinLaw", "held", "(IIIII)J"⟩ : MethodName)) hown (mvT hZ (hw _ (List.mem_of_getElem? (i := 58) rfl))) (mvT hZ (hw _ (List.mem_of_getElem? (i := 59) rfl))) (mvT hZ (hw _ (List.mem_of_getElem? (i := 16) rfl))) (mvT hZ (hw _ (List.mem_of_getElem? (i := 60) rfl))) (by decide) (backOf (W := 2) (own_r9 l Z a0 hw [] (n_ - (own_f8 n_ z)) n_ (1 : Int32) bt (3 : Int32)  T233.heap n0 SZ233 ) hZ (hw _ (List.mem_of_getElem? (i := 60) rfl)) (hw _ (List.mem_of_getElem? (i := 16) rfl)) (by decide) (by decide)) (g := (mkF m 239 #[.val (.int s0), .val (.int n1), .val (.int bt), .val (.long nw), .second, .val (.int z), .val (.int n_), .val (.ref wd), .val (.ref bb233), .val (.int (own_f8 n_ z)), .val (.int (n_ - (own_f8 n_ z))), .val (.long (own_sum (n_ - (own_f8 n_ z)) n_ (own_f3 bt (0 : Int32)) (own_f3 bt (2 : Int32)) (own_f3 bt (4 : Int32)) (own_f3 bt (6 : Int32)) (own_f3 bt (8 : Int32)))), .second, .unset, .unset] [(.int (3 : Int32)), (.int bt), (.int (1 : Int32)), (.int n_), (.int (n_ - (own_f8 n_ z))), (.long (own_f9 (n_ - (own_f8 n_ z)) n_ (0 : Int32) bt (1 : Int32)))])) rfl (by rw [hml]; rfl) (argsL := [(.int (n_ - (own_f8 n_ z))), (.int n_), (.int (1 : Int32)), (.int bt), (.int (3 : Int32))]) (rest := [(.long (own_f9 (n_ - (own_f8 n_ z)) n_ (0 : Int32) bt (1 : Int32)))]) (lenOf own_pd_7 rfl) rfl (by show 2 * 0 + _ ≤ _; exact Nat.le_of_eq rfl) (hb hby at_239) (fun _ _ => ⟨rfl, e244, (by decide : 4 + 0 ≤ _), (by decide : 17 + 0 ≤ _)⟩)
  dsimp only [Pt.U, Pt.locs, Pt.cells, Pt.slots] at X245 l245 y245 z245 st245 hQ245
  subst l245 y245 z245
  obtain ⟨rfl, N245q, e245⟩ := hQ245
  have N245 := Fr.app N244 N245q
  refine own_by st245 ?_
  show own_Go p e below T245 (mkF m 242 #[.val (.int s0), .val (.int n1), .val (.int bt), .val (.long nw), .second, .val (.int z), .val (.int n_), .val (.ref wd), .val (.ref bb233), .val (.int (own_f8 n_ z)), .val (.int (n_ - (own_f8 n_ z))), .val (.long (own_sum (n_ - (own_f8 n_ z)) n_ (own_f3 bt (0 : Int32)) (own_f3 bt (2 : Int32)) (own_f3 bt (4 : Int32)) (own_f3 bt (6 : Int32)) (own_f3 bt (8 : Int32)))), .second, .unset, .unset] [(.long (own_f9 (n_ - (own_f8 n_ z)) n_ (1 : Int32) bt (3 : Int32))), (.long (own_f9 (n_ - (own_f8 n_ z)) n_ (0 : Int32) bt (1 : Int32)))]) _
  refine own_s_ladd X245.here hx (hb hby at_242) ?_
  refine own_s_iload X245.here hx (hb hby at_243) rfl ?_
  refine own_s_iload X245.here hx (hb hby at_245) rfl ?_
  refine own_s_iconst X245.here hx (2 : Int32) (hb hby at_247) rfl ?_
  refine own_s_iloadN X245.here hx (hb hby at_248) rfl ?_
  refine own_s_iconst X245.here hx (5 : Int32) (hb hby at_249) rfl ?_
  obtain ⟨_, _, ⟨T246, L246, k246, n246⟩, -, X246, ⟨Lc246, hQ246, l246, y246, z246⟩, st246⟩ := Jvm.LawKit.callS X245 hx (y := (⟨"com/example/fairlead/fairlead/policy/CountWindowRecordPinLaw", "held", "(IIIII)J"⟩ : MethodName)) hown (mvT hZ (hw _ (List.mem_of_getElem? (i := 58) rfl))) (mvT hZ (hw _ (List.mem_of_getElem? (i := 59) rfl))) (mvT hZ (hw _ (List.mem_of_getElem? (i := 16) rfl))) (mvT hZ (hw _ (List.mem_of_getElem? (i := 60) rfl))) (by decide) (backOf (W := 2) (own_r9 l Z a0 hw [] (n_ - (own_f8 n_ z)) n_ (2 : Int32) bt (5 : Int32)  T233.heap n0 SZ233 ) hZ (hw _ (List.mem_of_getElem? (i := 60) rfl)) (hw _ (List.mem_of_getElem? (i := 16) rfl)) (by decide) (by decide)) (g := (mkF m 250 #[.val (.int s0), .val (.int n1), .val (.int bt), .val (.long nw), .second, .val (.int z), .val (.int n_), .val (.ref wd), .val (.ref bb233), .val (.int (own_f8 n_ z)), .val (.int (n_ - (own_f8 n_ z))), .val (.long (own_sum (n_ - (own_f8 n_ z)) n_ (own_f3 bt (0 : Int32)) (own_f3 bt (2 : Int32)) (own_f3 bt (4 : Int32)) (own_f3 bt (6 : Int32)) (own_f3 bt (8 : Int32)))), .second, .unset, .unset] [(.int (5 : Int32)), (.int bt), (.int (2 : Int32)), (.int n_), (.int (n_ - (own_f8 n_ z))), (.long ((own_f9 (n_ - (own_f8 n_ z)) n_ (0 : Int32) bt (1 : Int32)) + (own_f9 (n_ - (own_f8 n_ z)) n_ (1 : Int32) bt (3 : Int32))))])) rfl (by rw [hml]; rfl) (argsL := [(.int (n_ - (own_f8 n_ z))), (.int n_), (.int (2 : Int32)), (.int bt), (.int (5 : Int32))]) (rest := [(.long ((own_f9 (n_ - (own_f8 n_ z)) n_ (0 : Int32) bt (1 : Int32)) + (own_f9 (n_ - (own_f8 n_ z)) n_ (1 : Int32) bt (3 : Int32))))]) (lenOf own_pd_7 rfl) rfl (by show 2 * 0 + _ ≤ _; exact Nat.le_of_eq rfl) (hb hby at_250) (fun _ _ => ⟨rfl, e245, (by decide : 4 + 0 ≤ _), (by decide : 17 + 0 ≤ _)⟩)
  dsimp only [Pt.U, Pt.locs, Pt.cells, Pt.slots] at X246 l246 y246 z246 st246 hQ246
  subst l246 y246 z246
  obtain ⟨rfl, N246q, e246⟩ := hQ246
  have N246 := Fr.app N245 N246q
  refine own_by st246 ?_
  show own_Go p e below T246 (mkF m 253 #[.val (.int s0), .val (.int n1), .val (.int bt), .val (.long nw), .second, .val (.int z), .val (.int n_), .val (.ref wd), .val (.ref bb233), .val (.int (own_f8 n_ z)), .val (.int (n_ - (own_f8 n_ z))), .val (.long (own_sum (n_ - (own_f8 n_ z)) n_ (own_f3 bt (0 : Int32)) (own_f3 bt (2 : Int32)) (own_f3 bt (4 : Int32)) (own_f3 bt (6 : Int32)) (own_f3 bt (8 : Int32)))), .second, .unset, .unset] [(.long (own_f9 (n_ - (own_f8 n_ z)) n_ (2 : Int32) bt (5 : Int32))), (.long ((own_f9 (n_ - (own_f8 n_ z)) n_ (0 : Int32) bt (1 : Int32)) + (own_f9 (n_ - (own_f8 n_ z)) n_ (1 : Int32) bt (3 : Int32))))]) _
  refine own_s_ladd X246.here hx (hb hby at_253) ?_
  refine own_s_iload X246.here hx (hb hby at_254) rfl ?_
  refine own_s_iload X246.here hx (hb hby at_256) rfl ?_
  refine own_s_iconst X246.here hx (3 : Int32) (hb hby at_258) rfl ?_
  refine own_s_iloadN X246.here hx (hb hby at_259) rfl ?_
  refine own_s_bipush X246.here hx (7 : Int32) (hb hby at_260) rfl ?_
  obtain ⟨_, _, ⟨T247, L247, k247, n247⟩, -, X247, ⟨Lc247, hQ247, l247, y247, z247⟩, st247⟩ := Jvm.LawKit.callS X246 hx (y := (⟨"com/example/fairlead/fairlead/policy/CountWindowRecordPinLaw", "held", "(IIIII)J"⟩ : MethodName)) hown (mvT hZ (hw _ (List.mem_of_getElem? (i := 58) rfl))) (mvT hZ (hw _ (List.mem_of_getElem? (i := 59) rfl))) (mvT hZ (hw _ (List.mem_of_getElem? (i := 16) rfl))) (mvT hZ (hw _ (List.mem_of_getElem? (i := 60) rfl))) (by decide) (backOf (W := 2) (own_r9 l Z a0 hw [] (n_ - (own_f8 n_ z)) n_ (3 : Int32) bt (7 : Int32)  T233.heap n0 SZ233 ) hZ (hw _ (List.mem_of_getElem? (i := 60) rfl)) (hw _ (List.mem_of_getElem? (i := 16) rfl)) (by decide) (by decide)) (g := (mkF m 262 #[.val (.int s0), .val (.int n1), .val (.int bt), .val (.long nw), .second, .val (.int z), .val (.int n_), .val (.ref wd), .val (.ref bb233), .val (.int (own_f8 n_ z)), .val (.int (n_ - (own_f8 n_ z))), .val (.long (own_sum (n_ - (own_f8 n_ z)) n_ (own_f3 bt (0 : Int32)) (own_f3 bt (2 : Int32)) (own_f3 bt (4 : Int32)) (own_f3 bt (6 : Int32)) (own_f3 bt (8 : Int32)))), .second, .unset, .unset] [(.int (7 : Int32)), (.int bt), (.int (3 : Int32)), (.int n_), (.int (n_ - (own_f8 n_ z))), (.long (((own_f9 (n_ - (own_f8 n_ z)) n_ (0 : Int32) bt (1 : Int32)) + (own_f9 (n_ - (own_f8 n_ z)) n_ (1 : Int32) bt (3 : Int32))) + (own_f9 (n_ - (own_f8 n_ z)) n_ (2 : Int32) bt (5 : Int32))))])) rfl (by rw [hml]; rfl) (argsL := [(.int (n_ - (own_f8 n_ z))), (.int n_), (.int (3 : Int32)), (.int bt), (.int (7 : Int32))]) (rest := [(.long (((own_f9 (n_ - (own_f8 n_ z)) n_ (0 : Int32) bt (1 : Int32)) + (own_f9 (n_ - (own_f8 n_ z)) n_ (1 : Int32) bt (3 : Int32))) + (own_f9 (n_ - (own_f8 n_ z)) n_ (2 : Int32) bt (5 : Int32))))]) (lenOf own_pd_7 rfl) rfl (by show 2 * 0 + _ ≤ _; exact Nat.le_of_eq rfl) (hb hby at_262) (fun _ _ => ⟨rfl, e246, (by decide : 4 + 0 ≤ _), (by decide : 17 + 0 ≤ _)⟩)
  dsimp only [Pt.U, Pt.locs, Pt.cells, Pt.slots] at X247 l247 y247 z247 st247 hQ247
  subst l247 y247 z247
  obtain ⟨rfl, N247q, e247⟩ := hQ247
  have N247 := Fr.app N246 N247q
  refine own_by st247 ?_
  show own_Go p e below T247 (mkF m 265 #[.val (.int s0), .val (.int n1), .val (.int bt), .val (.long nw), .second, .val (.int z), .val (.int n_), .val (.ref wd), .val (.ref bb233), .val (.int (own_f8 n_ z)), .val (.int (n_ - (own_f8 n_ z))), .val (.long (own_sum (n_ - (own_f8 n_ z)) n_ (own_f3 bt (0 : Int32)) (own_f3 bt (2 : Int32)) (own_f3 bt (4 : Int32)) (own_f3 bt (6 : Int32)) (own_f3 bt (8 : Int32)))), .second, .unset, .unset] [(.long (own_f9 (n_ - (own_f8 n_ z)) n_ (3 : Int32) bt (7 : Int32))), (.long (((own_f9 (n_ - (own_f8 n_ z)) n_ (0 : Int32) bt (1 : Int32)) + (own_f9 (n_ - (own_f8 n_ z)) n_ (1 : Int32) bt (3 : Int32))) + (own_f9 (n_ - (own_f8 n_ z)) n_ (2 : Int32) bt (5 : Int32))))]) _
  refine own_s_ladd X247.here hx (hb hby at_265) ?_
  refine own_s_iload X247.here hx (hb hby at_266) rfl ?_
  refine own_s_iload X247.here hx (hb hby at_268) rfl ?_
  refine own_s_iconst X247.here hx (4 : Int32) (hb hby at_270) rfl ?_
  refine own_s_iloadN X247.here hx (hb hby at_271) rfl ?_
  refine own_s_bipush X247.here hx (9 : Int32) (hb hby at_272) rfl ?_
  obtain ⟨_, _, ⟨T248, L248, k248, n248⟩, -, X248, ⟨Lc248, hQ248, l248, y248, z248⟩, st248⟩ := Jvm.LawKit.callS X247 hx (y := (⟨"com/example/fairlead/fairlead/policy/CountWindowRecordPinLaw", "held", "(IIIII)J"⟩ : MethodName)) hown (mvT hZ (hw _ (List.mem_of_getElem? (i := 58) rfl))) (mvT hZ (hw _ (List.mem_of_getElem? (i := 59) rfl))) (mvT hZ (hw _ (List.mem_of_getElem? (i := 16) rfl))) (mvT hZ (hw _ (List.mem_of_getElem? (i := 60) rfl))) (by decide) (backOf (W := 2) (own_r9 l Z a0 hw [] (n_ - (own_f8 n_ z)) n_ (4 : Int32) bt (9 : Int32)  T233.heap n0 SZ233 ) hZ (hw _ (List.mem_of_getElem? (i := 60) rfl)) (hw _ (List.mem_of_getElem? (i := 16) rfl)) (by decide) (by decide)) (g := (mkF m 274 #[.val (.int s0), .val (.int n1), .val (.int bt), .val (.long nw), .second, .val (.int z), .val (.int n_), .val (.ref wd), .val (.ref bb233), .val (.int (own_f8 n_ z)), .val (.int (n_ - (own_f8 n_ z))), .val (.long (own_sum (n_ - (own_f8 n_ z)) n_ (own_f3 bt (0 : Int32)) (own_f3 bt (2 : Int32)) (own_f3 bt (4 : Int32)) (own_f3 bt (6 : Int32)) (own_f3 bt (8 : Int32)))), .second, .unset, .unset] [(.int (9 : Int32)), (.int bt), (.int (4 : Int32)), (.int n_), (.int (n_ - (own_f8 n_ z))), (.long ((((own_f9 (n_ - (own_f8 n_ z)) n_ (0 : Int32) bt (1 : Int32)) + (own_f9 (n_ - (own_f8 n_ z)) n_ (1 : Int32) bt (3 : Int32))) + (own_f9 (n_ - (own_f8 n_ z)) n_ (2 : Int32) bt (5 : Int32))) + (own_f9 (n_ - (own_f8 n_ z)) n_ (3 : Int32) bt (7 : Int32))))])) rfl (by rw [hml]; rfl) (argsL := [(.int (n_ - (own_f8 n_ z))), (.int n_), (.int (4 : Int32)), (.int bt), (.int (9 : Int32))]) (rest := [(.long ((((own_f9 (n_ - (own_f8 n_ z)) n_ (0 : Int32) bt (1 : Int32)) + (own_f9 (n_ - (own_f8 n_ z)) n_ (1 : Int32) bt (3 : Int32))) + (own_f9 (n_ - (own_f8 n_ z)) n_ (2 : Int32) bt (5 : Int32))) + (own_f9 (n_ - (own_f8 n_ z)) n_ (3 : Int32) bt (7 : Int32))))]) (lenOf own_pd_7 rfl) rfl (by show 2 * 0 + _ ≤ _; exact Nat.le_of_eq rfl) (hb hby at_274) (fun _ _ => ⟨rfl, e247, (by decide : 4 + 0 ≤ _), (by decide : 17 + 0 ≤ _)⟩)
  dsimp only [Pt.U, Pt.locs, Pt.cells, Pt.slots] at X248 l248 y248 z248 st248 hQ248
  subst l248 y248 z248
  obtain ⟨rfl, N248q, e248⟩ := hQ248
  have N248 := Fr.app N247 N248q
  refine own_by st248 ?_
  show own_Go p e below T248 (mkF m 277 #[.val (.int s0), .val (.int n1), .val (.int bt), .val (.long nw), .second, .val (.int z), .val (.int n_), .val (.ref wd), .val (.ref bb233), .val (.int (own_f8 n_ z)), .val (.int (n_ - (own_f8 n_ z))), .val (.long (own_sum (n_ - (own_f8 n_ z)) n_ (own_f3 bt (0 : Int32)) (own_f3 bt (2 : Int32)) (own_f3 bt (4 : Int32)) (own_f3 bt (6 : Int32)) (own_f3 bt (8 : Int32)))), .second, .unset, .unset] [(.long (own_f9 (n_ - (own_f8 n_ z)) n_ (4 : Int32) bt (9 : Int32))), (.long ((((own_f9 (n_ - (own_f8 n_ z)) n_ (0 : Int32) bt (1 : Int32)) + (own_f9 (n_ - (own_f8 n_ z)) n_ (1 : Int32) bt (3 : Int32))) + (own_f9 (n_ - (own_f8 n_ z)) n_ (2 : Int32) bt (5 : Int32))) + (own_f9 (n_ - (own_f8 n_ z)) n_ (3 : Int32) bt (7 : Int32))))]) _
  refine own_s_ladd X248.here hx (hb hby at_277) ?_
  show own_Go p e below T248 (mkF m 278 #[.val (.int s0), .val (.int n1), .val (.int bt), .val (.long nw), .second, .val (.int z), .val (.int n_), .val (.ref wd), .val (.ref bb233), .val (.int (own_f8 n_ z)), .val (.int (n_ - (own_f8 n_ z))), .val (.long (own_sum (n_ - (own_f8 n_ z)) n_ (own_f3 bt (0 : Int32)) (own_f3 bt (2 : Int32)) (own_f3 bt (4 : Int32)) (own_f3 bt (6 : Int32)) (own_f3 bt (8 : Int32)))), .second, .unset, .unset] [(.long (own_sum (n_ - (own_f8 n_ z)) n_ (own_f3 bt (1 : Int32)) (own_f3 bt (3 : Int32)) (own_f3 bt (5 : Int32)) (own_f3 bt (7 : Int32)) (own_f3 bt (9 : Int32))))]) _
  refine own_s_lstore X248.here hx #[.val (.int s0), .val (.int n1), .val (.int bt), .val (.long nw), .second, .val (.int z), .val (.int n_), .val (.ref wd), .val (.ref bb233), .val (.int (own_f8 n_ z)), .val (.int (n_ - (own_f8 n_ z))), .val (.long (own_sum (n_ - (own_f8 n_ z)) n_ (own_f3 bt (0 : Int32)) (own_f3 bt (2 : Int32)) (own_f3 bt (4 : Int32)) (own_f3 bt (6 : Int32)) (own_f3 bt (8 : Int32)))), .second, .val (.long (own_sum (n_ - (own_f8 n_ z)) n_ (own_f3 bt (1 : Int32)) (own_f3 bt (3 : Int32)) (own_f3 bt (5 : Int32)) (own_f3 bt (7 : Int32)) (own_f3 bt (9 : Int32)))), .second] (hb hby at_278) rfl ?_
  refine own_s_aload X248.here hx (hb hby at_280) rfl rfl ?_
  obtain ⟨cq249, kq249, q249a, q249b, q249c⟩ := isOf hZ e248 eb233
  obtain ⟨_, _, ⟨T249, L249, k249, n249⟩, -, X249, ⟨Lc249, hQ249, l249, y249, z249⟩, st249⟩ := X248.virtualBack hx (y := (⟨"com/example/fairlead/fairlead/model/BreakerCounts", "calls", "()J"⟩ : MethodName)) (z := (⟨"com/example/fairlead/fairlead/model/BreakerCounts", "calls", "()J"⟩ : MethodName)) hown (mvT hZ (hw _ (List.mem_of_getElem? (i := 61) rfl))) (mvT hZ (hw _ (List.mem_of_getElem? (i := 62) rfl))) (notFace_of_selects (args := #[]) (mvT hZ (hw _ (List.mem_of_getElem? (i := 64) rfl)))) (mvT hZ (hw _ (List.mem_of_getElem? (i := 64) rfl))) (mvT hZ (hw _ (List.mem_of_getElem? (i := 63) rfl))) (by decide) (backOf (W := 0) (own_r10 l Z a0 hw [] bb233 ((own_C z k).toInt64) T233.heap n0 SZ233 fa233) hZ (hw _ (List.mem_of_getElem? (i := 65) rfl)) (hw _ (List.mem_of_getElem? (i := 38) rfl)) (by decide) (by decide)) q249a q249c (g := (mkF m 282 #[.val (.int s0), .val (.int n1), .val (.int bt), .val (.long nw), .second, .val (.int z), .val (.int n_), .val (.ref wd), .val (.ref bb233), .val (.int (own_f8 n_ z)), .val (.int (n_ - (own_f8 n_ z))), .val (.long (own_sum (n_ - (own_f8 n_ z)) n_ (own_f3 bt (0 : Int32)) (own_f3 bt (2 : Int32)) (own_f3 bt (4 : Int32)) (own_f3 bt (6 : Int32)) (own_f3 bt (8 : Int32)))), .second, .val (.long (own_sum (n_ - (own_f8 n_ z)) n_ (own_f3 bt (1 : Int32)) (own_f3 bt (3 : Int32)) (own_f3 bt (5 : Int32)) (own_f3 bt (7 : Int32)) (own_f3 bt (9 : Int32)))), .second] [(.ref bb233)])) rfl (by rw [hml]; rfl) (Steps.refl _) (argsL := []) (rest := []) (lenOf own_pd_8 rfl) rfl (by show 2 * 0 + _ ≤ _; exact Nat.le_of_eq rfl) (hb hby at_282) (fun _ _ => ⟨rfl, e248, (by decide : 4 + 0 ≤ _), (by decide : 17 + 0 ≤ _)⟩)
  dsimp only [Pt.U, Pt.locs, Pt.cells, Pt.slots] at X249 l249 y249 z249 st249 hQ249
  subst l249 y249 z249
  obtain ⟨rfl, N249q, e249⟩ := hQ249
  have N249 := Fr.app N248 N249q
  refine own_by (fun t k => st249.trans k) ?_
  show own_Go p e below T249 (mkF m 285 #[.val (.int s0), .val (.int n1), .val (.int bt), .val (.long nw), .second, .val (.int z), .val (.int n_), .val (.ref wd), .val (.ref bb233), .val (.int (own_f8 n_ z)), .val (.int (n_ - (own_f8 n_ z))), .val (.long (own_sum (n_ - (own_f8 n_ z)) n_ (own_f3 bt (0 : Int32)) (own_f3 bt (2 : Int32)) (own_f3 bt (4 : Int32)) (own_f3 bt (6 : Int32)) (own_f3 bt (8 : Int32)))), .second, .val (.long (own_sum (n_ - (own_f8 n_ z)) n_ (own_f3 bt (1 : Int32)) (own_f3 bt (3 : Int32)) (own_f3 bt (5 : Int32)) (own_f3 bt (7 : Int32)) (own_f3 bt (9 : Int32)))), .second] [(.long ((own_C z k).toInt64))]) _
  refine own_s_iload X249.here hx (hb hby at_285) rfl ?_
  refine own_s_i2l X249.here hx (hb hby at_287) ?_
  refine own_s_lcmp X249.here hx (hb hby at_288) ?_
  refine own_s_ifNo X249.here hx (hb hby at_289) (Jvm.Free.XT.ll_ne_f ((own_finc hk hn hz1 hz2))) ?_
  refine own_s_aload X249.here hx (hb hby at_292) rfl rfl ?_
  obtain ⟨cq250, kq250, q250a, q250b, q250c⟩ := isOf hZ e249 eb233
  obtain ⟨_, _, ⟨T250, L250, k250, n250⟩, -, X250, ⟨Lc250, hQ250, l250, y250, z250⟩, st250⟩ := X249.virtualBack hx (y := (⟨"com/example/fairlead/fairlead/model/BreakerCounts", "failures", "()J"⟩ : MethodName)) (z := (⟨"com/example/fairlead/fairlead/model/BreakerCounts", "failures", "()J"⟩ : MethodName)) hown (mvT hZ (hw _ (List.mem_of_getElem? (i := 66) rfl))) (mvT hZ (hw _ (List.mem_of_getElem? (i := 67) rfl))) (notFace_of_selects (args := #[]) (mvT hZ (hw _ (List.mem_of_getElem? (i := 69) rfl)))) (mvT hZ (hw _ (List.mem_of_getElem? (i := 69) rfl))) (mvT hZ (hw _ (List.mem_of_getElem? (i := 68) rfl))) (by decide) (backOf (W := 0) (own_r11 l Z a0 hw [] bb233 ((own_F (own_b (own_f3 bt (0 : Int32)) (own_f3 bt (2 : Int32)) (own_f3 bt (4 : Int32)) (own_f3 bt (6 : Int32)) (own_f3 bt (8 : Int32))) z k).toInt64) T233.heap n0 SZ233 fb233) hZ (hw _ (List.mem_of_getElem? (i := 70) rfl)) (hw _ (List.mem_of_getElem? (i := 38) rfl)) (by decide) (by decide)) q250a q250c (g := (mkF m 294 #[.val (.int s0), .val (.int n1), .val (.int bt), .val (.long nw), .second, .val (.int z), .val (.int n_), .val (.ref wd), .val (.ref bb233), .val (.int (own_f8 n_ z)), .val (.int (n_ - (own_f8 n_ z))), .val (.long (own_sum (n_ - (own_f8 n_ z)) n_ (own_f3 bt (0 : Int32)) (own_f3 bt (2 : Int32)) (own_f3 bt (4 : Int32)) (own_f3 bt (6 : Int32)) (own_f3 bt (8 : Int32)))), .second, .val (.long (own_sum (n_ - (own_f8 n_ z)) n_ (own_f3 bt (1 : Int32)) (own_f3 bt (3 : Int32)) (own_f3 bt (5 : Int32)) (own_f3 bt (7 : Int32)) (own_f3 bt (9 : Int32)))), .second] [(.ref bb233)])) rfl (by rw [hml]; rfl) (Steps.refl _) (argsL := []) (rest := []) (lenOf own_pd_8 rfl) rfl (by show 2 * 0 + _ ≤ _; exact Nat.le_of_eq rfl) (hb hby at_294) (fun _ _ => ⟨rfl, e249, (by decide : 4 + 0 ≤ _), (by decide : 17 + 0 ≤ _)⟩)
  dsimp only [Pt.U, Pt.locs, Pt.cells, Pt.slots] at X250 l250 y250 z250 st250 hQ250
  subst l250 y250 z250
  obtain ⟨rfl, N250q, e250⟩ := hQ250
  have N250 := Fr.app N249 N250q
  refine own_by (fun t k => st250.trans k) ?_
  show own_Go p e below T250 (mkF m 297 #[.val (.int s0), .val (.int n1), .val (.int bt), .val (.long nw), .second, .val (.int z), .val (.int n_), .val (.ref wd), .val (.ref bb233), .val (.int (own_f8 n_ z)), .val (.int (n_ - (own_f8 n_ z))), .val (.long (own_sum (n_ - (own_f8 n_ z)) n_ (own_f3 bt (0 : Int32)) (own_f3 bt (2 : Int32)) (own_f3 bt (4 : Int32)) (own_f3 bt (6 : Int32)) (own_f3 bt (8 : Int32)))), .second, .val (.long (own_sum (n_ - (own_f8 n_ z)) n_ (own_f3 bt (1 : Int32)) (own_f3 bt (3 : Int32)) (own_f3 bt (5 : Int32)) (own_f3 bt (7 : Int32)) (own_f3 bt (9 : Int32)))), .second] [(.long ((own_F (own_b (own_f3 bt (0 : Int32)) (own_f3 bt (2 : Int32)) (own_f3 bt (4 : Int32)) (own_f3 bt (6 : Int32)) (own_f3 bt (8 : Int32))) z k).toInt64))]) _
  refine own_s_lload X250.here hx (hb hby at_297) rfl ?_
  refine own_s_lcmp X250.here hx (hb hby at_299) ?_
  refine own_s_ifNo X250.here hx (hb hby at_300) (Jvm.Free.XT.ll_ne_f ((own_fin hk hn hz1 hz2 (own_bit01 _ _) (own_bit01 _ _) (own_bit01 _ _) (own_bit01 _ _) (own_bit01 _ _)))) ?_
  refine own_s_aload X250.here hx (hb hby at_303) rfl rfl ?_
  obtain ⟨cq251, kq251, q251a, q251b, q251c⟩ := isOf hZ e250 eb233
  obtain ⟨_, _, ⟨T251, L251, k251, n251⟩, -, X251, ⟨Lc251, hQ251, l251, y251, z251⟩, st251⟩ := X250.virtualBack hx (y := (⟨"com/example/fairlead/fairlead/model/BreakerCounts", "slowCalls", "()J"⟩ : MethodName)) (z := (⟨"com/example/fairlead/fairlead/model/BreakerCounts", "slowCalls", "()J"⟩ : MethodName)) hown (mvT hZ (hw _ (List.mem_of_getElem? (i := 71) rfl))) (mvT hZ (hw _ (List.mem_of_getElem? (i := 72) rfl))) (notFace_of_selects (args := #[]) (mvT hZ (hw _ (List.mem_of_getElem? (i := 74) rfl)))) (mvT hZ (hw _ (List.mem_of_getElem? (i := 74) rfl))) (mvT hZ (hw _ (List.mem_of_getElem? (i := 73) rfl))) (by decide) (backOf (W := 0) (own_r12 l Z a0 hw [] bb233 ((own_F (own_b (own_f3 bt (1 : Int32)) (own_f3 bt (3 : Int32)) (own_f3 bt (5 : Int32)) (own_f3 bt (7 : Int32)) (own_f3 bt (9 : Int32))) z k).toInt64) T233.heap n0 SZ233 fc233) hZ (hw _ (List.mem_of_getElem? (i := 75) rfl)) (hw _ (List.mem_of_getElem? (i := 38) rfl)) (by decide) (by decide)) q251a q251c (g := (mkF m 305 #[.val (.int s0), .val (.int n1), .val (.int bt), .val (.long nw), .second, .val (.int z), .val (.int n_), .val (.ref wd), .val (.ref bb233), .val (.int (own_f8 n_ z)), .val (.int (n_ - (own_f8 n_ z))), .val (.long (own_sum (n_ - (own_f8 n_ z)) n_ (own_f3 bt (0 : Int32)) (own_f3 bt (2 : Int32)) (own_f3 bt (4 : Int32)) (own_f3 bt (6 : Int32)) (own_f3 bt (8 : Int32)))), .second, .val (.long (own_sum (n_ - (own_f8 n_ z)) n_ (own_f3 bt (1 : Int32)) (own_f3 bt (3 : Int32)) (own_f3 bt (5 : Int32)) (own_f3 bt (7 : Int32)) (own_f3 bt (9 : Int32)))), .second] [(.ref bb233)])) rfl (by rw [hml]; rfl) (Steps.refl _) (argsL := []) (rest := []) (lenOf own_pd_8 rfl) rfl (by show 2 * 0 + _ ≤ _; exact Nat.le_of_eq rfl) (hb hby at_305) (fun _ _ => ⟨rfl, e250, (by decide : 4 + 0 ≤ _), (by decide : 17 + 0 ≤ _)⟩)
  dsimp only [Pt.U, Pt.locs, Pt.cells, Pt.slots] at X251 l251 y251 z251 st251 hQ251
  subst l251 y251 z251
  obtain ⟨rfl, N251q, e251⟩ := hQ251
  have N251 := Fr.app N250 N251q
  refine own_by (fun t k => st251.trans k) ?_
  show own_Go p e below T251 (mkF m 308 #[.val (.int s0), .val (.int n1), .val (.int bt), .val (.long nw), .second, .val (.int z), .val (.int n_), .val (.ref wd), .val (.ref bb233), .val (.int (own_f8 n_ z)), .val (.int (n_ - (own_f8 n_ z))), .val (.long (own_sum (n_ - (own_f8 n_ z)) n_ (own_f3 bt (0 : Int32)) (own_f3 bt (2 : Int32)) (own_f3 bt (4 : Int32)) (own_f3 bt (6 : Int32)) (own_f3 bt (8 : Int32)))), .second, .val (.long (own_sum (n_ - (own_f8 n_ z)) n_ (own_f3 bt (1 : Int32)) (own_f3 bt (3 : Int32)) (own_f3 bt (5 : Int32)) (own_f3 bt (7 : Int32)) (own_f3 bt (9 : Int32)))), .second] [(.long ((own_F (own_b (own_f3 bt (1 : Int32)) (own_f3 bt (3 : Int32)) (own_f3 bt (5 : Int32)) (own_f3 bt (7 : Int32)) (own_f3 bt (9 : Int32))) z k).toInt64))]) _
  refine own_s_lload X251.here hx (hb hby at_308) rfl ?_
  refine own_s_lcmp X251.here hx (hb hby at_310) ?_
  refine own_s_ifNo X251.here hx (hb hby at_311) (Jvm.Free.XT.ll_ne_f ((own_fin hk hn hz1 hz2 (own_bit01 _ _) (own_bit01 _ _) (own_bit01 _ _) (own_bit01 _ _) (own_bit01 _ _)))) ?_
  refine own_s_iconst X251.here hx (1 : Int32) (hb hby at_314) rfl ?_
  show own_Go p e below T251 (mkF m 315 #[.val (.int s0), .val (.int n1), .val (.int bt), .val (.long nw), .second, .val (.int z), .val (.int n_), .val (.ref wd), .val (.ref bb233), .val (.int (own_f8 n_ z)), .val (.int (n_ - (own_f8 n_ z))), .val (.long (own_sum (n_ - (own_f8 n_ z)) n_ (own_f3 bt (0 : Int32)) (own_f3 bt (2 : Int32)) (own_f3 bt (4 : Int32)) (own_f3 bt (6 : Int32)) (own_f3 bt (8 : Int32)))), .second, .val (.long (own_sum (n_ - (own_f8 n_ z)) n_ (own_f3 bt (1 : Int32)) (own_f3 bt (3 : Int32)) (own_f3 bt (5 : Int32)) (own_f3 bt (7 : Int32)) (own_f3 bt (9 : Int32)))), .second] [(.int (1 : Int32))]) _
  refine own_s_goto X251.here hx 319 (hb hby at_315) (by decide) (by decide) ?_
  refine own_retZ X251 hx hret hlk (hb hby at_319) rfl (by decide) (by decide) ?_
  exact ⟨rfl, N251⟩
theorem own_le_0 {n m : Int32} (h : ¬ m < n) (hm : m.toInt ≤ 0 := by decide) : ¬ (0 : Int32) < n := by
  rw [Int32.lt_iff_toInt_lt] at *
  rw [show (0 : Int32).toInt = 0 from by decide]
  omega
theorem own_le_1 {n m : Int32} (h : ¬ m < n) (hm : m.toInt ≤ 1 := by decide) : ¬ (1 : Int32) < n := by
  rw [Int32.lt_iff_toInt_lt] at *
  rw [show (1 : Int32).toInt = 1 from by decide]
  omega
theorem own_le_2 {n m : Int32} (h : ¬ m < n) (hm : m.toInt ≤ 2 := by decide) : ¬ (2 : Int32) < n := by
  rw [Int32.lt_iff_toInt_lt] at *
  rw [show (2 : Int32).toInt = 2 from by decide]
  omega
theorem own_le_3 {n m : Int32} (h : ¬ m < n) (hm : m.toInt ≤ 3 := by decide) : ¬ (3 : Int32) < n := by
  rw [Int32.lt_iff_toInt_lt] at *
  rw [show (3 : Int32).toInt = 3 from by decide]
  omega
theorem own_le_4 {n m : Int32} (h : ¬ m < n) (hm : m.toInt ≤ 4 := by decide) : ¬ (4 : Int32) < n := by
  rw [Int32.lt_iff_toInt_lt] at *
  rw [show (4 : Int32).toInt = 4 from by decide]
  omega
theorem own_ml : maxLocals = 15 := rfl
theorem own_ef0 (m : MethodId) (s0 : Int32) (n1 : Int32) (bt : Int32) (nw : Int64) : entryFrame m #[(.int s0), (.int n1), (.int bt), (.long nw)] maxLocals = mkF m 0 #[.val (.int s0), .val (.int n1), .val (.int bt), .val (.long nw), .second, .unset, .unset, .unset, .unset, .unset, .unset, .unset, .unset, .unset, .unset] [] := by first | (simp [entryFrame, mkF, argsToLocals, Value.category, maxLocals]; done) | rfl
theorem own_pd_0 : parseMethodDescriptor "(I)V" = some ⟨[.int], none⟩ := by decide +kernel
theorem own_pd_3 : parseMethodDescriptor "(JZZ)V" = some ⟨[.long, .boolean, .boolean], none⟩ := by decide +kernel
def own_q_own_r0 (Z : State) (s0 : Int32) (n1 : Int32) (bt : Int32) (nw : Int64) (h0 : Heap) (n0 : Nat) (v : Option Value) (h : Heap) (L : List Loc) : Prop := v = some (.int 1) ∧ Fr n0 L
set_option maxRecDepth 65536 in
set_option maxHeartbeats 40000000 in
theorem own_r0 (l : Launch) (Z : State) (a0 : Array Value) (hw : ∀ d ∈ tables_1, d.before a0 Z = true) (ws : List Jvm.Cond) (s0 : Int32) (n1 : Int32) (bt : Int32) (nw : Int64) (h0 : Heap) (n0 : Nat) (Z0 : n0 ≤ h0.size) :
    MetFree l x (head1 (Jvm.Cond.code x code maxLocals ret :: ws) room_1) (fun a U => a = #[(.int s0), (.int n1), (.int bt), (.long nw)] ∧ Z.Warmed39 U.vm ∧ U.heap = h0) (fun _ _ _ _ _ => True) (fun _ U o U' => ∃ v L, o = .returned v ∧ own_q_own_r0 Z s0 n1 bt nw h0 n0 v U'.heap L ∧ FrameEnd U o U' L 16 128) := by
  refine MetFree.of_bodySF (plainFor_of_name own_pn_CountWindowRecordPinLaw) hisR ?_
  intro p e s m args below meth c T0 Bd hml0 hP hK
  obtain ⟨rfl, hZ, hh⟩ := hP
  have hx := Bd.exec
  have hby := Bd.bytes
  have hml : c.maxLocals = 15 := hml0
  have hown : s.vm.findClass "com/example/fairlead/fairlead/policy/CountWindowRecordPinLaw" = some m.cls := findClass_of_methodNamed Bd.named
  have hnm := (name_of_methodNamed Bd.named Bd.method).1
  have hret : meth.sig.returnType = (some .boolean) := Bd.returns
  have hlk : meth.locks = false := BodyLoose.notSynchronized Bd
  have X0 : Stand p l e room_1 s m #[(.int s0), (.int n1), (.int bt), (.long nw)] below meth c T0 [] 0 0 := Stand.of_body Bd
  have e0 : T0.heap = h0 := by rw [← hh, Bd.state]; rfl
  have N0 := Fr.nil n0
  refine own_start (own_ef0 m s0 n1 bt nw) (Q := fun (v : Option Value) (h : Heap) (L : List Loc) => v = some (.int 1) ∧ Fr n0 L) (k := 16) (j := 128) ?_
  show own_Go p e below T0 (mkF m 0 #[.val (.int s0), .val (.int n1), .val (.int bt), .val (.long nw), .second, .unset, .unset, .unset, .unset, .unset, .unset, .unset, .unset, .unset, .unset] []) _
  refine own_s_iloadN X0.here hx (hb hby at_0) rfl ?_
  refine own_s_iconst X0.here hx (3 : Int32) (hb hby at_1) rfl ?_
  refine own_s_iand X0.here hx (hb hby at_2) ?_
  refine own_s_iconst X0.here hx (1 : Int32) (hb hby at_3) rfl ?_
  refine own_s_iadd X0.here hx (hb hby at_4) ?_
  refine own_s_istore X0.here hx #[.val (.int s0), .val (.int n1), .val (.int bt), .val (.long nw), .second, .val (.int ((s0 &&& (3 : Int32)) + (1 : Int32))), .unset, .unset, .unset, .unset, .unset, .unset, .unset, .unset, .unset] (hb hby at_5) rfl ?_
  have hz := own_sizeb s0
  generalize hzq : ((s0 &&& (3 : Int32)) + (1 : Int32)) = z at hz
  try rw [hzq]
  show own_Go p e below T0 (mkF m 7 #[.val (.int s0), .val (.int n1), .val (.int bt), .val (.long nw), .second, .val (.int z), .unset, .unset, .unset, .unset, .unset, .unset, .unset, .unset, .unset] []) _
  obtain ⟨hz1, hz2⟩ := hz
  have hz4 := own_z4 hz1 hz2
  refine own_s_iloadN X0.here hx (hb hby at_7) rfl ?_
  refine own_s_bipush X0.here hx (7 : Int32) (hb hby at_8) rfl ?_
  refine own_s_iand X0.here hx (hb hby at_10) ?_
  refine own_s_bipush X0.here hx (6 : Int32) (hb hby at_11) rfl ?_
  refine own_by (fun tq_ kq_ => iremM X0 hx rfl (hb hby at_13) rfl (by decide) kq_) ?_
  show own_Go p e below T0 (mkF m 14 #[.val (.int s0), .val (.int n1), .val (.int bt), .val (.long nw), .second, .val (.int z), .unset, .unset, .unset, .unset, .unset, .unset, .unset, .unset, .unset] [(.int ((n1 &&& (7 : Int32)) % (6 : Int32)))]) _
  refine own_s_istore X0.here hx #[.val (.int s0), .val (.int n1), .val (.int bt), .val (.long nw), .second, .val (.int z), .val (.int ((n1 &&& (7 : Int32)) % (6 : Int32))), .unset, .unset, .unset, .unset, .unset, .unset, .unset, .unset] (hb hby at_14) rfl ?_
  have hnb := own_nb n1
  generalize hnq : ((n1 &&& (7 : Int32)) % (6 : Int32)) = n_ at hnb
  try rw [hnq]
  show own_Go p e below T0 (mkF m 16 #[.val (.int s0), .val (.int n1), .val (.int bt), .val (.long nw), .second, .val (.int z), .val (.int n_), .unset, .unset, .unset, .unset, .unset, .unset, .unset, .unset] []) _
  obtain ⟨T252, h252, X252, e252, E252, A252, D252, -, st252⟩ := newO X0 hx hZ hown (hw _ (List.mem_of_getElem? (i := 0) rfl)) (hw _ (List.mem_of_getElem? (i := 1) rfl)) (hw _ (List.mem_of_getElem? (i := 2) rfl)) e0 (g := (mkF m 16 #[.val (.int s0), .val (.int n1), .val (.int bt), .val (.long nw), .second, .val (.int z), .val (.int n_), .unset, .unset, .unset, .unset, .unset, .unset, .unset, .unset] [])) rfl (hb hby at_16) (by decide) (by decide)
  obtain ⟨b252, g252⟩ : ∃ z, z = h0.size := ⟨_, rfl⟩
  rw [← g252] at A252 D252 st252
  have ge_b252 : n0 ≤ b252 := Nat.le_trans Z0 (Nat.le_of_eq g252.symm)
  have SZ252 : n0 ≤ h252.size := Nat.le_trans Z0 E252.1
  have f253 : Fld Z h252 b252 "com/example/fairlead/fairlead/policy/CountWindow" "failed" "[Z" .null := D252 (Or.inr (hw _ (List.mem_of_getElem? (i := 11) rfl))) (ty := (.array .boolean)) (by decide)
  have f254 : Fld Z h252 b252 "com/example/fairlead/fairlead/policy/CountWindow" "slow" "[Z" .null := D252 (Or.inr (hw _ (List.mem_of_getElem? (i := 13) rfl))) (ty := (.array .boolean)) (by decide)
  have f255 : Fld Z h252 b252 "com/example/fairlead/fairlead/policy/CountWindow" "calls" "I" (.int (0 : Int32)) := D252 (Or.inl (hw _ (List.mem_of_getElem? (i := 24) rfl))) (ty := .int) (by decide)
  have f256 : Fld Z h252 b252 "com/example/fairlead/fairlead/policy/CountWindow" "next" "I" (.int (0 : Int32)) := D252 (Or.inl (hw _ (List.mem_of_getElem? (i := 26) rfl))) (ty := .int) (by decide)
  have f257 : Fld Z h252 b252 "com/example/fairlead/fairlead/policy/CountWindow" "failures" "I" (.int (0 : Int32)) := D252 (Or.inl (hw _ (List.mem_of_getElem? (i := 28) rfl))) (ty := .int) (by decide)
  have f258 : Fld Z h252 b252 "com/example/fairlead/fairlead/policy/CountWindow" "slowCalls" "I" (.int (0 : Int32)) := D252 (Or.inl (hw _ (List.mem_of_getElem? (i := 30) rfl))) (ty := .int) (by decide)
  refine own_by st252 ?_
  show own_Go p e below T252 (mkF m 19 #[.val (.int s0), .val (.int n1), .val (.int bt), .val (.long nw), .second, .val (.int z), .val (.int n_), .unset, .unset, .unset, .unset, .unset, .unset, .unset, .unset] [(.ref b252)]) _
  refine own_s_dup X252.here hx (hb hby at_19) rfl ?_
  refine own_s_iload X252.here hx (hb hby at_20) rfl ?_
  obtain ⟨_, _, ⟨T259, L259, k259, n259⟩, -, X259, ⟨Lc259, hQ259, l259, y259, z259⟩, st259⟩ := X252.specialBack hx (y := (⟨"com/example/fairlead/fairlead/policy/CountWindow", "<init>", "(I)V"⟩ : MethodName)) rfl hown (mvT hZ (hw _ (List.mem_of_getElem? (i := 3) rfl))) (mvT hZ (hw _ (List.mem_of_getElem? (i := 4) rfl))) (mvT hZ (hw _ (List.mem_of_getElem? (i := 5) rfl))) (by decide) (backOf (W := 1) (own_r1 l Z a0 hw [] b252 z z.toNatClampNeg h252 n0 SZ252 rfl hz4.1 hz4.2.1 A252 f253 f254 f255 f257 f258 f256 ge_b252) hZ (hw _ (List.mem_of_getElem? (i := 5) rfl)) (hw _ (List.mem_of_getElem? (i := 2) rfl)) (by decide) (by decide)) (g := (mkF m 22 #[.val (.int s0), .val (.int n1), .val (.int bt), .val (.long nw), .second, .val (.int z), .val (.int n_), .unset, .unset, .unset, .unset, .unset, .unset, .unset, .unset] [(.int z), (.ref b252), (.ref b252)])) rfl (by rw [hml]; rfl) (Steps.refl _) (a := b252) (argsL := [(.int z)]) (rest := [(.ref b252)]) (lenOf own_pd_0 rfl) rfl (by show 2 * 0 + _ ≤ _; exact Nat.le_of_eq rfl) (hb hby at_22) (fun _ _ => ⟨rfl, e252, (by decide : 1 + 2 ≤ _), (by decide : 6 + 8 ≤ _)⟩)
  dsimp only [Pt.U, Pt.locs, Pt.cells, Pt.slots] at X259 l259 y259 z259 st259 hQ259
  subst l259 y259 z259
  obtain ⟨rfl, N259q, K259, fa259, sa259, ga259, gs259, na259, ns259, nas259, f0_259, f1_259, f2_259, f3_259, f4_259, f5_259, Aa259, As259⟩ := hQ259
  have N259 := Fr.app N0 N259q
  have f260 := A252.keep K259
  have SZ259 : n0 ≤ T259.heap.size := Nat.le_trans SZ252 K259.1
  refine own_by (fun t k => st259.trans k) ?_
  show own_Go p e below T259 (mkF m 25 #[.val (.int s0), .val (.int n1), .val (.int bt), .val (.long nw), .second, .val (.int z), .val (.int n_), .unset, .unset, .unset, .unset, .unset, .unset, .unset, .unset] [(.ref b252)]) _
  refine own_s_astore X259.here hx #[.val (.int s0), .val (.int n1), .val (.int bt), .val (.long nw), .second, .val (.int z), .val (.int n_), .val (.ref b252), .unset, .unset, .unset, .unset, .unset, .unset, .unset] (hb hby at_25) rfl rfl ?_
  have hfb := own_b_bit (own_bit01 bt (0 : Int32)) (own_bit01 bt (2 : Int32)) (own_bit01 bt (4 : Int32)) (own_bit01 bt (6 : Int32)) (own_bit01 bt (8 : Int32))
  have hsb := own_b_bit (own_bit01 bt (1 : Int32)) (own_bit01 bt (3 : Int32)) (own_bit01 bt (5 : Int32)) (own_bit01 bt (7 : Int32)) (own_bit01 bt (9 : Int32))
  have f261 : Fld Z T259.heap b252 "com/example/fairlead/fairlead/policy/CountWindow" "calls" "I" (.int (own_C z 0)) := f2_259
  have f262 : Fld Z T259.heap b252 "com/example/fairlead/fairlead/policy/CountWindow" "failures" "I" (.int (own_F (own_b (own_f3 bt (0 : Int32)) (own_f3 bt (2 : Int32)) (own_f3 bt (4 : Int32)) (own_f3 bt (6 : Int32)) (own_f3 bt (8 : Int32))) z 0)) := f3_259
  have f263 : Fld Z T259.heap b252 "com/example/fairlead/fairlead/policy/CountWindow" "slowCalls" "I" (.int (own_F (own_b (own_f3 bt (1 : Int32)) (own_f3 bt (3 : Int32)) (own_f3 bt (5 : Int32)) (own_f3 bt (7 : Int32)) (own_f3 bt (9 : Int32))) z 0)) := f4_259
  have f264 : Fld Z T259.heap b252 "com/example/fairlead/fairlead/policy/CountWindow" "next" "I" (.int (own_X z 0)) := f5_259
  have f265 : own_Av Z T259.heap fa259 .boolean z.toNatClampNeg (own_A (own_b (own_f3 bt (0 : Int32)) (own_f3 bt (2 : Int32)) (own_f3 bt (4 : Int32)) (own_f3 bt (6 : Int32)) (own_f3 bt (8 : Int32))) z 0) := Aa259
  have f266 : own_Av Z T259.heap sa259 .boolean z.toNatClampNeg (own_A (own_b (own_f3 bt (1 : Int32)) (own_f3 bt (3 : Int32)) (own_f3 bt (5 : Int32)) (own_f3 bt (7 : Int32)) (own_f3 bt (9 : Int32))) z 0) := As259
  refine own_s_iload X259.here hx (hb hby at_27) rfl ?_
  by_cases hn0 : 0 < n_
  ·
    refine own_s_ifNo X259.here hx (hb hby at_29) (Jvm.Free.XT.i0_le_f hn0) ?_
    refine own_s_aload X259.here hx (hb hby at_32) rfl rfl ?_
    refine own_s_lloadN X259.here hx (hb hby at_34) rfl ?_
    refine own_s_iloadN X259.here hx (hb hby at_35) rfl ?_
    refine own_s_iconst X259.here hx (0 : Int32) (hb hby at_36) rfl ?_
    obtain ⟨_, _, ⟨T267, L267, k267, n267⟩, -, X267, ⟨Lc267, hQ267, l267, y267, z267⟩, st267⟩ := Jvm.LawKit.callS X259 hx (y := (⟨"com/example/fairlead/fairlead/policy/CountWindowRecordPinLaw", "bit", "(II)Z"⟩ : MethodName)) hown (mvT hZ (hw _ (List.mem_of_getElem? (i := 14) rfl))) (mvT hZ (hw _ (List.mem_of_getElem? (i := 15) rfl))) (mvT hZ (hw _ (List.mem_of_getElem? (i := 16) rfl))) (mvT hZ (hw _ (List.mem_of_getElem? (i := 17) rfl))) (by decide) (backOf (W := 3) (own_r3 l Z a0 hw [] bt (0 : Int32)  T259.heap n0 SZ259 ) hZ (hw _ (List.mem_of_getElem? (i := 17) rfl)) (hw _ (List.mem_of_getElem? (i := 16) rfl)) (by decide) (by decide)) (g := (mkF m 37 #[.val (.int s0), .val (.int n1), .val (.int bt), .val (.long nw), .second, .val (.int z), .val (.int n_), .val (.ref b252), .unset, .unset, .unset, .unset, .unset, .unset, .unset] [(.int (0 : Int32)), (.int bt), (.long nw), (.ref b252)])) rfl (by rw [hml]; rfl) (argsL := [(.int bt), (.int (0 : Int32))]) (rest := [(.long nw), (.ref b252)]) (lenOf own_pd_2 rfl) rfl (by show 2 * 0 + _ ≤ _; exact Nat.le_of_eq rfl) (hb hby at_37) (fun _ _ => ⟨rfl, rfl, (by decide : 3 + 0 ≤ _), (by decide : 14 + 0 ≤ _)⟩)
    dsimp only [Pt.U, Pt.locs, Pt.cells, Pt.slots] at X267 l267 y267 z267 st267 hQ267
    subst l267 y267 z267
    obtain ⟨rfl, N267q, e267⟩ := hQ267
    have N267 := Fr.app N259 N267q
    refine own_by st267 ?_
    show own_Go p e below T267 (mkF m 40 #[.val (.int s0), .val (.int n1), .val (.int bt), .val (.long nw), .second, .val (.int z), .val (.int n_), .val (.ref b252), .unset, .unset, .unset, .unset, .unset, .unset, .unset] [(.int (own_f3 bt (0 : Int32))), (.long nw), (.ref b252)]) _
    refine own_s_iloadN X267.here hx (hb hby at_40) rfl ?_
    refine own_s_iconst X267.here hx (1 : Int32) (hb hby at_41) rfl ?_
    obtain ⟨_, _, ⟨T268, L268, k268, n268⟩, -, X268, ⟨Lc268, hQ268, l268, y268, z268⟩, st268⟩ := Jvm.LawKit.callS X267 hx (y := (⟨"com/example/fairlead/fairlead/policy/CountWindowRecordPinLaw", "bit", "(II)Z"⟩ : MethodName)) hown (mvT hZ (hw _ (List.mem_of_getElem? (i := 14) rfl))) (mvT hZ (hw _ (List.mem_of_getElem? (i := 15) rfl))) (mvT hZ (hw _ (List.mem_of_getElem? (i := 16) rfl))) (mvT hZ (hw _ (List.mem_of_getElem? (i := 17) rfl))) (by decide) (backOf (W := 4) (own_r3 l Z a0 hw [] bt (1 : Int32)  T259.heap n0 SZ259 ) hZ (hw _ (List.mem_of_getElem? (i := 17) rfl)) (hw _ (List.mem_of_getElem? (i := 16) rfl)) (by decide) (by decide)) (g := (mkF m 42 #[.val (.int s0), .val (.int n1), .val (.int bt), .val (.long nw), .second, .val (.int z), .val (.int n_), .val (.ref b252), .unset, .unset, .unset, .unset, .unset, .unset, .unset] [(.int (1 : Int32)), (.int bt), (.int (own_f3 bt (0 : Int32))), (.long nw), (.ref b252)])) rfl (by rw [hml]; rfl) (argsL := [(.int bt), (.int (1 : Int32))]) (rest := [(.int (own_f3 bt (0 : Int32))), (.long nw), (.ref b252)]) (lenOf own_pd_2 rfl) rfl (by show 2 * 0 + _ ≤ _; exact Nat.le_of_eq rfl) (hb hby at_42) (fun _ _ => ⟨rfl, e267, (by decide : 3 + 0 ≤ _), (by decide : 14 + 0 ≤ _)⟩)
    dsimp only [Pt.U, Pt.locs, Pt.cells, Pt.slots] at X268 l268 y268 z268 st268 hQ268
    subst l268 y268 z268
    obtain ⟨rfl, N268q, e268⟩ := hQ268
    have N268 := Fr.app N267 N268q
    refine own_by st268 ?_
    show own_Go p e below T268 (mkF m 45 #[.val (.int s0), .val (.int n1), .val (.int bt), .val (.long nw), .second, .val (.int z), .val (.int n_), .val (.ref b252), .unset, .unset, .unset, .unset, .unset, .unset, .unset] [(.int (own_f3 bt (1 : Int32))), (.int (own_f3 bt (0 : Int32))), (.long nw), (.ref b252)]) _
    obtain ⟨cq269, kq269, q269a, q269b, q269c⟩ := isOf hZ e268 f260
    obtain ⟨_, _, ⟨T269, L269, k269, n269⟩, -, X269, ⟨Lc269, hQ269, l269, y269, z269⟩, st269⟩ := X268.virtualBack hx (y := (⟨"com/example/fairlead/fairlead/policy/CountWindow", "record", "(JZZ)V"⟩ : MethodName)) (z := (⟨"com/example/fairlead/fairlead/policy/CountWindow", "record", "(JZZ)V"⟩ : MethodName)) hown (mvT hZ (hw _ (List.mem_of_getElem? (i := 18) rfl))) (mvT hZ (hw _ (List.mem_of_getElem? (i := 19) rfl))) (notFace_of_selects (args := #[]) (mvT hZ (hw _ (List.mem_of_getElem? (i := 21) rfl)))) (mvT hZ (hw _ (List.mem_of_getElem? (i := 21) rfl))) (mvT hZ (hw _ (List.mem_of_getElem? (i := 20) rfl))) (by decide) (backOf (W := 0) (own_r4 l Z a0 hw [] b252 nw (own_f3 bt (0 : Int32)) (own_f3 bt (1 : Int32)) fa259 sa259 (own_C z 0) (own_F (own_b (own_f3 bt (0 : Int32)) (own_f3 bt (2 : Int32)) (own_f3 bt (4 : Int32)) (own_f3 bt (6 : Int32)) (own_f3 bt (8 : Int32))) z 0) (own_F (own_b (own_f3 bt (1 : Int32)) (own_f3 bt (3 : Int32)) (own_f3 bt (5 : Int32)) (own_f3 bt (7 : Int32)) (own_f3 bt (9 : Int32))) z 0) (own_X z 0) z (own_V (own_b (own_f3 bt (0 : Int32)) (own_f3 bt (2 : Int32)) (own_f3 bt (4 : Int32)) (own_f3 bt (6 : Int32)) (own_f3 bt (8 : Int32))) z 0) (own_V (own_b (own_f3 bt (1 : Int32)) (own_f3 bt (3 : Int32)) (own_f3 bt (5 : Int32)) (own_f3 bt (7 : Int32)) (own_f3 bt (9 : Int32))) z 0) z.toNatClampNeg (own_X z 0).toNatClampNeg (own_A (own_b (own_f3 bt (0 : Int32)) (own_f3 bt (2 : Int32)) (own_f3 bt (4 : Int32)) (own_f3 bt (6 : Int32)) (own_f3 bt (8 : Int32))) z 0) (own_A (own_b (own_f3 bt (1 : Int32)) (own_f3 bt (3 : Int32)) (own_f3 bt (5 : Int32)) (own_f3 bt (7 : Int32)) (own_f3 bt (9 : Int32))) z 0) T259.heap n0 SZ259 hz4.2.2 (own_Xlt' z hz1 hz2 0 (by decide)).1 (own_Xlt' z hz1 hz2 0 (by decide)).2 (own_V_eq (own_b (own_f3 bt (0 : Int32)) (own_f3 bt (2 : Int32)) (own_f3 bt (4 : Int32)) (own_f3 bt (6 : Int32)) (own_f3 bt (8 : Int32))) z hfb 0).1 (own_V_eq (own_b (own_f3 bt (1 : Int32)) (own_f3 bt (3 : Int32)) (own_f3 bt (5 : Int32)) (own_f3 bt (7 : Int32)) (own_f3 bt (9 : Int32))) z hsb 0).1 (own_V_eq (own_b (own_f3 bt (0 : Int32)) (own_f3 bt (2 : Int32)) (own_f3 bt (4 : Int32)) (own_f3 bt (6 : Int32)) (own_f3 bt (8 : Int32))) z hfb 0).2 (own_V_eq (own_b (own_f3 bt (1 : Int32)) (own_f3 bt (3 : Int32)) (own_f3 bt (5 : Int32)) (own_f3 bt (7 : Int32)) (own_f3 bt (9 : Int32))) z hsb 0).2 (own_bit01 _ _) (own_bit01 _ _) f260 f0_259 f1_259 f261 f262 f263 f264 ge_b252 f265 ga259 f266 gs259 na259 ns259 nas259) hZ (hw _ (List.mem_of_getElem? (i := 22) rfl)) (hw _ (List.mem_of_getElem? (i := 2) rfl)) (by decide) (by decide)) q269a q269c (g := (mkF m 45 #[.val (.int s0), .val (.int n1), .val (.int bt), .val (.long nw), .second, .val (.int z), .val (.int n_), .val (.ref b252), .unset, .unset, .unset, .unset, .unset, .unset, .unset] [(.int (own_f3 bt (1 : Int32))), (.int (own_f3 bt (0 : Int32))), (.long nw), (.ref b252)])) rfl (by rw [hml]; rfl) (Steps.refl _) (argsL := [(.long nw), (.int (own_f3 bt (0 : Int32))), (.int (own_f3 bt (1 : Int32)))]) (rest := []) (lenOf own_pd_3 rfl) rfl (by show 2 * 0 + _ ≤ _; exact Nat.le_of_eq rfl) (hb hby at_45) (fun _ _ => ⟨rfl, e268, (by decide : 3 + 0 ≤ _), (by decide : 14 + 0 ≤ _)⟩)
    dsimp only [Pt.U, Pt.locs, Pt.cells, Pt.slots] at X269 l269 y269 z269 st269 hQ269
    subst l269 y269 z269
    obtain ⟨rfl, N269q, K269, f0_269, f1_269, f2_269, f3_269, f4_269, f5_269, Aa269, As269⟩ := hQ269
    have N269 := Fr.app N268 N269q
    have f270 := f260.keep K269
    have SZ269 : n0 ≤ T269.heap.size := Nat.le_trans SZ259 K269.1
    refine own_by (fun t k => st269.trans k) ?_
    show own_Go p e below T269 (mkF m 48 #[.val (.int s0), .val (.int n1), .val (.int bt), .val (.long nw), .second, .val (.int z), .val (.int n_), .val (.ref b252), .unset, .unset, .unset, .unset, .unset, .unset, .unset] []) _
    have f271 : Fld Z T269.heap b252 "com/example/fairlead/fairlead/policy/CountWindow" "calls" "I" (.int (own_C z 1)) := f2_269
    have f272 : Fld Z T269.heap b252 "com/example/fairlead/fairlead/policy/CountWindow" "failures" "I" (.int (own_F (own_b (own_f3 bt (0 : Int32)) (own_f3 bt (2 : Int32)) (own_f3 bt (4 : Int32)) (own_f3 bt (6 : Int32)) (own_f3 bt (8 : Int32))) z 1)) := f3_269
    have f273 : Fld Z T269.heap b252 "com/example/fairlead/fairlead/policy/CountWindow" "slowCalls" "I" (.int (own_F (own_b (own_f3 bt (1 : Int32)) (own_f3 bt (3 : Int32)) (own_f3 bt (5 : Int32)) (own_f3 bt (7 : Int32)) (own_f3 bt (9 : Int32))) z 1)) := f4_269
    have f274 : Fld Z T269.heap b252 "com/example/fairlead/fairlead/policy/CountWindow" "next" "I" (.int (own_X z 1)) := f5_269
    have f275 : own_Av Z T269.heap fa259 .boolean z.toNatClampNeg (own_A (own_b (own_f3 bt (0 : Int32)) (own_f3 bt (2 : Int32)) (own_f3 bt (4 : Int32)) (own_f3 bt (6 : Int32)) (own_f3 bt (8 : Int32))) z 1) := Aa269
    have f276 : own_Av Z T269.heap sa259 .boolean z.toNatClampNeg (own_A (own_b (own_f3 bt (1 : Int32)) (own_f3 bt (3 : Int32)) (own_f3 bt (5 : Int32)) (own_f3 bt (7 : Int32)) (own_f3 bt (9 : Int32))) z 1) := As269
    refine own_s_iload X269.here hx (hb hby at_48) rfl ?_
    refine own_s_iconst X269.here hx (1 : Int32) (hb hby at_50) rfl ?_
    by_cases hn1 : (1 : Int32) < n_
    ·
      refine own_s_icmpNo X269.here hx (hb hby at_51) (Jvm.Free.XT.ii_le_f hn1) ?_
      refine own_s_aload X269.here hx (hb hby at_54) rfl rfl ?_
      refine own_s_lloadN X269.here hx (hb hby at_56) rfl ?_
      refine own_s_iloadN X269.here hx (hb hby at_57) rfl ?_
      refine own_s_iconst X269.here hx (2 : Int32) (hb hby at_58) rfl ?_
      obtain ⟨_, _, ⟨T277, L277, k277, n277⟩, -, X277, ⟨Lc277, hQ277, l277, y277, z277⟩, st277⟩ := Jvm.LawKit.callS X269 hx (y := (⟨"com/example/fairlead/fairlead/policy/CountWindowRecordPinLaw", "bit", "(II)Z"⟩ : MethodName)) hown (mvT hZ (hw _ (List.mem_of_getElem? (i := 14) rfl))) (mvT hZ (hw _ (List.mem_of_getElem? (i := 15) rfl))) (mvT hZ (hw _ (List.mem_of_getElem? (i := 16) rfl))) (mvT hZ (hw _ (List.mem_of_getElem? (i := 17) rfl))) (by decide) (backOf (W := 3) (own_r3 l Z a0 hw [] bt (2 : Int32)  T269.heap n0 SZ269 ) hZ (hw _ (List.mem_of_getElem? (i := 17) rfl)) (hw _ (List.mem_of_getElem? (i := 16) rfl)) (by decide) (by decide)) (g := (mkF m 59 #[.val (.int s0), .val (.int n1), .val (.int bt), .val (.long nw), .second, .val (.int z), .val (.int n_), .val (.ref b252), .unset, .unset, .unset, .unset, .unset, .unset, .unset] [(.int (2 : Int32)), (.int bt), (.long nw), (.ref b252)])) rfl (by rw [hml]; rfl) (argsL := [(.int bt), (.int (2 : Int32))]) (rest := [(.long nw), (.ref b252)]) (lenOf own_pd_2 rfl) rfl (by show 2 * 0 + _ ≤ _; exact Nat.le_of_eq rfl) (hb hby at_59) (fun _ _ => ⟨rfl, rfl, (by decide : 3 + 0 ≤ _), (by decide : 14 + 0 ≤ _)⟩)
      dsimp only [Pt.U, Pt.locs, Pt.cells, Pt.slots] at X277 l277 y277 z277 st277 hQ277
      subst l277 y277 z277
      obtain ⟨rfl, N277q, e277⟩ := hQ277
      have N277 := Fr.app N269 N277q
      refine own_by st277 ?_
      show own_Go p e below T277 (mkF m 62 #[.val (.int s0), .val (.int n1), .val (.int bt), .val (.long nw), .second, .val (.int z), .val (.int n_), .val (.ref b252), .unset, .unset, .unset, .unset, .unset, .unset, .unset] [(.int (own_f3 bt (2 : Int32))), (.long nw), (.ref b252)]) _
      refine own_s_iloadN X277.here hx (hb hby at_62) rfl ?_
      refine own_s_iconst X277.here hx (3 : Int32) (hb hby at_63) rfl ?_
      obtain ⟨_, _, ⟨T278, L278, k278, n278⟩, -, X278, ⟨Lc278, hQ278, l278, y278, z278⟩, st278⟩ := Jvm.LawKit.callS X277 hx (y := (⟨"com/example/fairlead/fairlead/policy/CountWindowRecordPinLaw", "bit", "(II)Z"⟩ : MethodName)) hown (mvT hZ (hw _ (List.mem_of_getElem? (i := 14) rfl))) (mvT hZ (hw _ (List.mem_of_getElem? (i := 15) rfl))) (mvT hZ (hw _ (List.mem_of_getElem? (i := 16) rfl))) (mvT hZ (hw _ (List.mem_of_getElem? (i := 17) rfl))) (by decide) (backOf (W := 4) (own_r3 l Z a0 hw [] bt (3 : Int32)  T269.heap n0 SZ269 ) hZ (hw _ (List.mem_of_getElem? (i := 17) rfl)) (hw _ (List.mem_of_getElem? (i := 16) rfl)) (by decide) (by decide)) (g := (mkF m 64 #[.val (.int s0), .val (.int n1), .val (.int bt), .val (.long nw), .second, .val (.int z), .val (.int n_), .val (.ref b252), .unset, .unset, .unset, .unset, .unset, .unset, .unset] [(.int (3 : Int32)), (.int bt), (.int (own_f3 bt (2 : Int32))), (.long nw), (.ref b252)])) rfl (by rw [hml]; rfl) (argsL := [(.int bt), (.int (3 : Int32))]) (rest := [(.int (own_f3 bt (2 : Int32))), (.long nw), (.ref b252)]) (lenOf own_pd_2 rfl) rfl (by show 2 * 0 + _ ≤ _; exact Nat.le_of_eq rfl) (hb hby at_64) (fun _ _ => ⟨rfl, e277, (by decide : 3 + 0 ≤ _), (by decide : 14 + 0 ≤ _)⟩)
      dsimp only [Pt.U, Pt.locs, Pt.cells, Pt.slots] at X278 l278 y278 z278 st278 hQ278
      subst l278 y278 z278
      obtain ⟨rfl, N278q, e278⟩ := hQ278
      have N278 := Fr.app N277 N278q
      refine own_by st278 ?_
      show own_Go p e below T278 (mkF m 67 #[.val (.int s0), .val (.int n1), .val (.int bt), .val (.long nw), .second, .val (.int z), .val (.int n_), .val (.ref b252), .unset, .unset, .unset, .unset, .unset, .unset, .unset] [(.int (own_f3 bt (3 : Int32))), (.int (own_f3 bt (2 : Int32))), (.long nw), (.ref b252)]) _
      obtain ⟨cq279, kq279, q279a, q279b, q279c⟩ := isOf hZ e278 f270
      obtain ⟨_, _, ⟨T279, L279, k279, n279⟩, -, X279, ⟨Lc279, hQ279, l279, y279, z279⟩, st279⟩ := X278.virtualBack hx (y := (⟨"com/example/fairlead/fairlead/policy/CountWindow", "record", "(JZZ)V"⟩ : MethodName)) (z := (⟨"com/example/fairlead/fairlead/policy/CountWindow", "record", "(JZZ)V"⟩ : MethodName)) hown (mvT hZ (hw _ (List.mem_of_getElem? (i := 18) rfl))) (mvT hZ (hw _ (List.mem_of_getElem? (i := 19) rfl))) (notFace_of_selects (args := #[]) (mvT hZ (hw _ (List.mem_of_getElem? (i := 21) rfl)))) (mvT hZ (hw _ (List.mem_of_getElem? (i := 21) rfl))) (mvT hZ (hw _ (List.mem_of_getElem? (i := 20) rfl))) (by decide) (backOf (W := 0) (own_r4 l Z a0 hw [] b252 nw (own_f3 bt (2 : Int32)) (own_f3 bt (3 : Int32)) fa259 sa259 (own_C z 1) (own_F (own_b (own_f3 bt (0 : Int32)) (own_f3 bt (2 : Int32)) (own_f3 bt (4 : Int32)) (own_f3 bt (6 : Int32)) (own_f3 bt (8 : Int32))) z 1) (own_F (own_b (own_f3 bt (1 : Int32)) (own_f3 bt (3 : Int32)) (own_f3 bt (5 : Int32)) (own_f3 bt (7 : Int32)) (own_f3 bt (9 : Int32))) z 1) (own_X z 1) z (own_V (own_b (own_f3 bt (0 : Int32)) (own_f3 bt (2 : Int32)) (own_f3 bt (4 : Int32)) (own_f3 bt (6 : Int32)) (own_f3 bt (8 : Int32))) z 1) (own_V (own_b (own_f3 bt (1 : Int32)) (own_f3 bt (3 : Int32)) (own_f3 bt (5 : Int32)) (own_f3 bt (7 : Int32)) (own_f3 bt (9 : Int32))) z 1) z.toNatClampNeg (own_X z 1).toNatClampNeg (own_A (own_b (own_f3 bt (0 : Int32)) (own_f3 bt (2 : Int32)) (own_f3 bt (4 : Int32)) (own_f3 bt (6 : Int32)) (own_f3 bt (8 : Int32))) z 1) (own_A (own_b (own_f3 bt (1 : Int32)) (own_f3 bt (3 : Int32)) (own_f3 bt (5 : Int32)) (own_f3 bt (7 : Int32)) (own_f3 bt (9 : Int32))) z 1) T269.heap n0 SZ269 hz4.2.2 (own_Xlt' z hz1 hz2 1 (by decide)).1 (own_Xlt' z hz1 hz2 1 (by decide)).2 (own_V_eq (own_b (own_f3 bt (0 : Int32)) (own_f3 bt (2 : Int32)) (own_f3 bt (4 : Int32)) (own_f3 bt (6 : Int32)) (own_f3 bt (8 : Int32))) z hfb 1).1 (own_V_eq (own_b (own_f3 bt (1 : Int32)) (own_f3 bt (3 : Int32)) (own_f3 bt (5 : Int32)) (own_f3 bt (7 : Int32)) (own_f3 bt (9 : Int32))) z hsb 1).1 (own_V_eq (own_b (own_f3 bt (0 : Int32)) (own_f3 bt (2 : Int32)) (own_f3 bt (4 : Int32)) (own_f3 bt (6 : Int32)) (own_f3 bt (8 : Int32))) z hfb 1).2 (own_V_eq (own_b (own_f3 bt (1 : Int32)) (own_f3 bt (3 : Int32)) (own_f3 bt (5 : Int32)) (own_f3 bt (7 : Int32)) (own_f3 bt (9 : Int32))) z hsb 1).2 (own_bit01 _ _) (own_bit01 _ _) f270 f0_269 f1_269 f271 f272 f273 f274 ge_b252 f275 ga259 f276 gs259 na259 ns259 nas259) hZ (hw _ (List.mem_of_getElem? (i := 22) rfl)) (hw _ (List.mem_of_getElem? (i := 2) rfl)) (by decide) (by decide)) q279a q279c (g := (mkF m 67 #[.val (.int s0), .val (.int n1), .val (.int bt), .val (.long nw), .second, .val (.int z), .val (.int n_), .val (.ref b252), .unset, .unset, .unset, .unset, .unset, .unset, .unset] [(.int (own_f3 bt (3 : Int32))), (.int (own_f3 bt (2 : Int32))), (.long nw), (.ref b252)])) rfl (by rw [hml]; rfl) (Steps.refl _) (argsL := [(.long nw), (.int (own_f3 bt (2 : Int32))), (.int (own_f3 bt (3 : Int32)))]) (rest := []) (lenOf own_pd_3 rfl) rfl (by show 2 * 0 + _ ≤ _; exact Nat.le_of_eq rfl) (hb hby at_67) (fun _ _ => ⟨rfl, e278, (by decide : 3 + 0 ≤ _), (by decide : 14 + 0 ≤ _)⟩)
      dsimp only [Pt.U, Pt.locs, Pt.cells, Pt.slots] at X279 l279 y279 z279 st279 hQ279
      subst l279 y279 z279
      obtain ⟨rfl, N279q, K279, f0_279, f1_279, f2_279, f3_279, f4_279, f5_279, Aa279, As279⟩ := hQ279
      have N279 := Fr.app N278 N279q
      have f280 := f270.keep K279
      have SZ279 : n0 ≤ T279.heap.size := Nat.le_trans SZ269 K279.1
      refine own_by (fun t k => st279.trans k) ?_
      show own_Go p e below T279 (mkF m 70 #[.val (.int s0), .val (.int n1), .val (.int bt), .val (.long nw), .second, .val (.int z), .val (.int n_), .val (.ref b252), .unset, .unset, .unset, .unset, .unset, .unset, .unset] []) _
      have f281 : Fld Z T279.heap b252 "com/example/fairlead/fairlead/policy/CountWindow" "calls" "I" (.int (own_C z 2)) := f2_279
      have f282 : Fld Z T279.heap b252 "com/example/fairlead/fairlead/policy/CountWindow" "failures" "I" (.int (own_F (own_b (own_f3 bt (0 : Int32)) (own_f3 bt (2 : Int32)) (own_f3 bt (4 : Int32)) (own_f3 bt (6 : Int32)) (own_f3 bt (8 : Int32))) z 2)) := f3_279
      have f283 : Fld Z T279.heap b252 "com/example/fairlead/fairlead/policy/CountWindow" "slowCalls" "I" (.int (own_F (own_b (own_f3 bt (1 : Int32)) (own_f3 bt (3 : Int32)) (own_f3 bt (5 : Int32)) (own_f3 bt (7 : Int32)) (own_f3 bt (9 : Int32))) z 2)) := f4_279
      have f284 : Fld Z T279.heap b252 "com/example/fairlead/fairlead/policy/CountWindow" "next" "I" (.int (own_X z 2)) := f5_279
      have f285 : own_Av Z T279.heap fa259 .boolean z.toNatClampNeg (own_A (own_b (own_f3 bt (0 : Int32)) (own_f3 bt (2 : Int32)) (own_f3 bt (4 : Int32)) (own_f3 bt (6 : Int32)) (own_f3 bt (8 : Int32))) z 2) := Aa279
      have f286 : own_Av Z T279.heap sa259 .boolean z.toNatClampNeg (own_A (own_b (own_f3 bt (1 : Int32)) (own_f3 bt (3 : Int32)) (own_f3 bt (5 : Int32)) (own_f3 bt (7 : Int32)) (own_f3 bt (9 : Int32))) z 2) := As279
      refine own_s_iload X279.here hx (hb hby at_70) rfl ?_
      refine own_s_iconst X279.here hx (2 : Int32) (hb hby at_72) rfl ?_
      by_cases hn2 : (2 : Int32) < n_
      ·
        refine own_s_icmpNo X279.here hx (hb hby at_73) (Jvm.Free.XT.ii_le_f hn2) ?_
        refine own_s_aload X279.here hx (hb hby at_76) rfl rfl ?_
        refine own_s_lloadN X279.here hx (hb hby at_78) rfl ?_
        refine own_s_iloadN X279.here hx (hb hby at_79) rfl ?_
        refine own_s_iconst X279.here hx (4 : Int32) (hb hby at_80) rfl ?_
        obtain ⟨_, _, ⟨T287, L287, k287, n287⟩, -, X287, ⟨Lc287, hQ287, l287, y287, z287⟩, st287⟩ := Jvm.LawKit.callS X279 hx (y := (⟨"com/example/fairlead/fairlead/policy/CountWindowRecordPinLaw", "bit", "(II)Z"⟩ : MethodName)) hown (mvT hZ (hw _ (List.mem_of_getElem? (i := 14) rfl))) (mvT hZ (hw _ (List.mem_of_getElem? (i := 15) rfl))) (mvT hZ (hw _ (List.mem_of_getElem? (i := 16) rfl))) (mvT hZ (hw _ (List.mem_of_getElem? (i := 17) rfl))) (by decide) (backOf (W := 3) (own_r3 l Z a0 hw [] bt (4 : Int32)  T279.heap n0 SZ279 ) hZ (hw _ (List.mem_of_getElem? (i := 17) rfl)) (hw _ (List.mem_of_getElem? (i := 16) rfl)) (by decide) (by decide)) (g := (mkF m 81 #[.val (.int s0), .val (.int n1), .val (.int bt), .val (.long nw), .second, .val (.int z), .val (.int n_), .val (.ref b252), .unset, .unset, .unset, .unset, .unset, .unset, .unset] [(.int (4 : Int32)), (.int bt), (.long nw), (.ref b252)])) rfl (by rw [hml]; rfl) (argsL := [(.int bt), (.int (4 : Int32))]) (rest := [(.long nw), (.ref b252)]) (lenOf own_pd_2 rfl) rfl (by show 2 * 0 + _ ≤ _; exact Nat.le_of_eq rfl) (hb hby at_81) (fun _ _ => ⟨rfl, rfl, (by decide : 3 + 0 ≤ _), (by decide : 14 + 0 ≤ _)⟩)
        dsimp only [Pt.U, Pt.locs, Pt.cells, Pt.slots] at X287 l287 y287 z287 st287 hQ287
        subst l287 y287 z287
        obtain ⟨rfl, N287q, e287⟩ := hQ287
        have N287 := Fr.app N279 N287q
        refine own_by st287 ?_
        show own_Go p e below T287 (mkF m 84 #[.val (.int s0), .val (.int n1), .val (.int bt), .val (.long nw), .second, .val (.int z), .val (.int n_), .val (.ref b252), .unset, .unset, .unset, .unset, .unset, .unset, .unset] [(.int (own_f3 bt (4 : Int32))), (.long nw), (.ref b252)]) _
        refine own_s_iloadN X287.here hx (hb hby at_84) rfl ?_
        refine own_s_iconst X287.here hx (5 : Int32) (hb hby at_85) rfl ?_
        obtain ⟨_, _, ⟨T288, L288, k288, n288⟩, -, X288, ⟨Lc288, hQ288, l288, y288, z288⟩, st288⟩ := Jvm.LawKit.callS X287 hx (y := (⟨"com/example/fairlead/fairlead/policy/CountWindowRecordPinLaw", "bit", "(II)Z"⟩ : MethodName)) hown (mvT hZ (hw _ (List.mem_of_getElem? (i := 14) rfl))) (mvT hZ (hw _ (List.mem_of_getElem? (i := 15) rfl))) (mvT hZ (hw _ (List.mem_of_getElem? (i := 16) rfl))) (mvT hZ (hw _ (List.mem_of_getElem? (i := 17) rfl))) (by decide) (backOf (W := 4) (own_r3 l Z a0 hw [] bt (5 : Int32)  T279.heap n0 SZ279 ) hZ (hw _ (List.mem_of_getElem? (i := 17) rfl)) (hw _ (List.mem_of_getElem? (i := 16) rfl)) (by decide) (by decide)) (g := (mkF m 86 #[.val (.int s0), .val (.int n1), .val (.int bt), .val (.long nw), .second, .val (.int z), .val (.int n_), .val (.ref b252), .unset, .unset, .unset, .unset, .unset, .unset, .unset] [(.int (5 : Int32)), (.int bt), (.int (own_f3 bt (4 : Int32))), (.long nw), (.ref b252)])) rfl (by rw [hml]; rfl) (argsL := [(.int bt), (.int (5 : Int32))]) (rest := [(.int (own_f3 bt (4 : Int32))), (.long nw), (.ref b252)]) (lenOf own_pd_2 rfl) rfl (by show 2 * 0 + _ ≤ _; exact Nat.le_of_eq rfl) (hb hby at_86) (fun _ _ => ⟨rfl, e287, (by decide : 3 + 0 ≤ _), (by decide : 14 + 0 ≤ _)⟩)
        dsimp only [Pt.U, Pt.locs, Pt.cells, Pt.slots] at X288 l288 y288 z288 st288 hQ288
        subst l288 y288 z288
        obtain ⟨rfl, N288q, e288⟩ := hQ288
        have N288 := Fr.app N287 N288q
        refine own_by st288 ?_
        show own_Go p e below T288 (mkF m 89 #[.val (.int s0), .val (.int n1), .val (.int bt), .val (.long nw), .second, .val (.int z), .val (.int n_), .val (.ref b252), .unset, .unset, .unset, .unset, .unset, .unset, .unset] [(.int (own_f3 bt (5 : Int32))), (.int (own_f3 bt (4 : Int32))), (.long nw), (.ref b252)]) _
        obtain ⟨cq289, kq289, q289a, q289b, q289c⟩ := isOf hZ e288 f280
        obtain ⟨_, _, ⟨T289, L289, k289, n289⟩, -, X289, ⟨Lc289, hQ289, l289, y289, z289⟩, st289⟩ := X288.virtualBack hx (y := (⟨"com/example/fairlead/fairlead/policy/CountWindow", "record", "(JZZ)V"⟩ : MethodName)) (z := (⟨"com/example/fairlead/fairlead/policy/CountWindow", "record", "(JZZ)V"⟩ : MethodName)) hown (mvT hZ (hw _ (List.mem_of_getElem? (i := 18) rfl))) (mvT hZ (hw _ (List.mem_of_getElem? (i := 19) rfl))) (notFace_of_selects (args := #[]) (mvT hZ (hw _ (List.mem_of_getElem? (i := 21) rfl)))) (mvT hZ (hw _ (List.mem_of_getElem? (i := 21) rfl))) (mvT hZ (hw _ (List.mem_of_getElem? (i := 20) rfl))) (by decide) (backOf (W := 0) (own_r4 l Z a0 hw [] b252 nw (own_f3 bt (4 : Int32)) (own_f3 bt (5 : Int32)) fa259 sa259 (own_C z 2) (own_F (own_b (own_f3 bt (0 : Int32)) (own_f3 bt (2 : Int32)) (own_f3 bt (4 : Int32)) (own_f3 bt (6 : Int32)) (own_f3 bt (8 : Int32))) z 2) (own_F (own_b (own_f3 bt (1 : Int32)) (own_f3 bt (3 : Int32)) (own_f3 bt (5 : Int32)) (own_f3 bt (7 : Int32)) (own_f3 bt (9 : Int32))) z 2) (own_X z 2) z (own_V (own_b (own_f3 bt (0 : Int32)) (own_f3 bt (2 : Int32)) (own_f3 bt (4 : Int32)) (own_f3 bt (6 : Int32)) (own_f3 bt (8 : Int32))) z 2) (own_V (own_b (own_f3 bt (1 : Int32)) (own_f3 bt (3 : Int32)) (own_f3 bt (5 : Int32)) (own_f3 bt (7 : Int32)) (own_f3 bt (9 : Int32))) z 2) z.toNatClampNeg (own_X z 2).toNatClampNeg (own_A (own_b (own_f3 bt (0 : Int32)) (own_f3 bt (2 : Int32)) (own_f3 bt (4 : Int32)) (own_f3 bt (6 : Int32)) (own_f3 bt (8 : Int32))) z 2) (own_A (own_b (own_f3 bt (1 : Int32)) (own_f3 bt (3 : Int32)) (own_f3 bt (5 : Int32)) (own_f3 bt (7 : Int32)) (own_f3 bt (9 : Int32))) z 2) T279.heap n0 SZ279 hz4.2.2 (own_Xlt' z hz1 hz2 2 (by decide)).1 (own_Xlt' z hz1 hz2 2 (by decide)).2 (own_V_eq (own_b (own_f3 bt (0 : Int32)) (own_f3 bt (2 : Int32)) (own_f3 bt (4 : Int32)) (own_f3 bt (6 : Int32)) (own_f3 bt (8 : Int32))) z hfb 2).1 (own_V_eq (own_b (own_f3 bt (1 : Int32)) (own_f3 bt (3 : Int32)) (own_f3 bt (5 : Int32)) (own_f3 bt (7 : Int32)) (own_f3 bt (9 : Int32))) z hsb 2).1 (own_V_eq (own_b (own_f3 bt (0 : Int32)) (own_f3 bt (2 : Int32)) (own_f3 bt (4 : Int32)) (own_f3 bt (6 : Int32)) (own_f3 bt (8 : Int32))) z hfb 2).2 (own_V_eq (own_b (own_f3 bt (1 : Int32)) (own_f3 bt (3 : Int32)) (own_f3 bt (5 : Int32)) (own_f3 bt (7 : Int32)) (own_f3 bt (9 : Int32))) z hsb 2).2 (own_bit01 _ _) (own_bit01 _ _) f280 f0_279 f1_279 f281 f282 f283 f284 ge_b252 f285 ga259 f286 gs259 na259 ns259 nas259) hZ (hw _ (List.mem_of_getElem? (i := 22) rfl)) (hw _ (List.mem_of_getElem? (i := 2) rfl)) (by decide) (by decide)) q289a q289c (g := (mkF m 89 #[.val (.int s0), .val (.int n1), .val (.int bt), .val (.long nw), .second, .val (.int z), .val (.int n_), .val (.ref b252), .unset, .unset, .unset, .unset, .unset, .unset, .unset] [(.int (own_f3 bt (5 : Int32))), (.int (own_f3 bt (4 : Int32))), (.long nw), (.ref b252)])) rfl (by rw [hml]; rfl) (Steps.refl _) (argsL := [(.long nw), (.int (own_f3 bt (4 : Int32))), (.int (own_f3 bt (5 : Int32)))]) (rest := []) (lenOf own_pd_3 rfl) rfl (by show 2 * 0 + _ ≤ _; exact Nat.le_of_eq rfl) (hb hby at_89) (fun _ _ => ⟨rfl, e288, (by decide : 3 + 0 ≤ _), (by decide : 14 + 0 ≤ _)⟩)
        dsimp only [Pt.U, Pt.locs, Pt.cells, Pt.slots] at X289 l289 y289 z289 st289 hQ289
        subst l289 y289 z289
        obtain ⟨rfl, N289q, K289, f0_289, f1_289, f2_289, f3_289, f4_289, f5_289, Aa289, As289⟩ := hQ289
        have N289 := Fr.app N288 N289q
        have f290 := f280.keep K289
        have SZ289 : n0 ≤ T289.heap.size := Nat.le_trans SZ279 K289.1
        refine own_by (fun t k => st289.trans k) ?_
        show own_Go p e below T289 (mkF m 92 #[.val (.int s0), .val (.int n1), .val (.int bt), .val (.long nw), .second, .val (.int z), .val (.int n_), .val (.ref b252), .unset, .unset, .unset, .unset, .unset, .unset, .unset] []) _
        have f291 : Fld Z T289.heap b252 "com/example/fairlead/fairlead/policy/CountWindow" "calls" "I" (.int (own_C z 3)) := f2_289
        have f292 : Fld Z T289.heap b252 "com/example/fairlead/fairlead/policy/CountWindow" "failures" "I" (.int (own_F (own_b (own_f3 bt (0 : Int32)) (own_f3 bt (2 : Int32)) (own_f3 bt (4 : Int32)) (own_f3 bt (6 : Int32)) (own_f3 bt (8 : Int32))) z 3)) := f3_289
        have f293 : Fld Z T289.heap b252 "com/example/fairlead/fairlead/policy/CountWindow" "slowCalls" "I" (.int (own_F (own_b (own_f3 bt (1 : Int32)) (own_f3 bt (3 : Int32)) (own_f3 bt (5 : Int32)) (own_f3 bt (7 : Int32)) (own_f3 bt (9 : Int32))) z 3)) := f4_289
        have f294 : Fld Z T289.heap b252 "com/example/fairlead/fairlead/policy/CountWindow" "next" "I" (.int (own_X z 3)) := f5_289
        have f295 : own_Av Z T289.heap fa259 .boolean z.toNatClampNeg (own_A (own_b (own_f3 bt (0 : Int32)) (own_f3 bt (2 : Int32)) (own_f3 bt (4 : Int32)) (own_f3 bt (6 : Int32)) (own_f3 bt (8 : Int32))) z 3) := Aa289
        have f296 : own_Av Z T289.heap sa259 .boolean z.toNatClampNeg (own_A (own_b (own_f3 bt (1 : Int32)) (own_f3 bt (3 : Int32)) (own_f3 bt (5 : Int32)) (own_f3 bt (7 : Int32)) (own_f3 bt (9 : Int32))) z 3) := As289
        refine own_s_iload X289.here hx (hb hby at_92) rfl ?_
        refine own_s_iconst X289.here hx (3 : Int32) (hb hby at_94) rfl ?_
        by_cases hn3 : (3 : Int32) < n_
        ·
          refine own_s_icmpNo X289.here hx (hb hby at_95) (Jvm.Free.XT.ii_le_f hn3) ?_
          refine own_s_aload X289.here hx (hb hby at_98) rfl rfl ?_
          refine own_s_lloadN X289.here hx (hb hby at_100) rfl ?_
          refine own_s_iloadN X289.here hx (hb hby at_101) rfl ?_
          refine own_s_bipush X289.here hx (6 : Int32) (hb hby at_102) rfl ?_
          obtain ⟨_, _, ⟨T297, L297, k297, n297⟩, -, X297, ⟨Lc297, hQ297, l297, y297, z297⟩, st297⟩ := Jvm.LawKit.callS X289 hx (y := (⟨"com/example/fairlead/fairlead/policy/CountWindowRecordPinLaw", "bit", "(II)Z"⟩ : MethodName)) hown (mvT hZ (hw _ (List.mem_of_getElem? (i := 14) rfl))) (mvT hZ (hw _ (List.mem_of_getElem? (i := 15) rfl))) (mvT hZ (hw _ (List.mem_of_getElem? (i := 16) rfl))) (mvT hZ (hw _ (List.mem_of_getElem? (i := 17) rfl))) (by decide) (backOf (W := 3) (own_r3 l Z a0 hw [] bt (6 : Int32)  T289.heap n0 SZ289 ) hZ (hw _ (List.mem_of_getElem? (i := 17) rfl)) (hw _ (List.mem_of_getElem? (i := 16) rfl)) (by decide) (by decide)) (g := (mkF m 104 #[.val (.int s0), .val (.int n1), .val (.int bt), .val (.long nw), .second, .val (.int z), .val (.int n_), .val (.ref b252), .unset, .unset, .unset, .unset, .unset, .unset, .unset] [(.int (6 : Int32)), (.int bt), (.long nw), (.ref b252)])) rfl (by rw [hml]; rfl) (argsL := [(.int bt), (.int (6 : Int32))]) (rest := [(.long nw), (.ref b252)]) (lenOf own_pd_2 rfl) rfl (by show 2 * 0 + _ ≤ _; exact Nat.le_of_eq rfl) (hb hby at_104) (fun _ _ => ⟨rfl, rfl, (by decide : 3 + 0 ≤ _), (by decide : 14 + 0 ≤ _)⟩)
          dsimp only [Pt.U, Pt.locs, Pt.cells, Pt.slots] at X297 l297 y297 z297 st297 hQ297
          subst l297 y297 z297
          obtain ⟨rfl, N297q, e297⟩ := hQ297
          have N297 := Fr.app N289 N297q
          refine own_by st297 ?_
          show own_Go p e below T297 (mkF m 107 #[.val (.int s0), .val (.int n1), .val (.int bt), .val (.long nw), .second, .val (.int z), .val (.int n_), .val (.ref b252), .unset, .unset, .unset, .unset, .unset, .unset, .unset] [(.int (own_f3 bt (6 : Int32))), (.long nw), (.ref b252)]) _
          refine own_s_iloadN X297.here hx (hb hby at_107) rfl ?_
          refine own_s_bipush X297.here hx (7 : Int32) (hb hby at_108) rfl ?_
          obtain ⟨_, _, ⟨T298, L298, k298, n298⟩, -, X298, ⟨Lc298, hQ298, l298, y298, z298⟩, st298⟩ := Jvm.LawKit.callS X297 hx (y := (⟨"com/example/fairlead/fairlead/policy/CountWindowRecordPinLaw", "bit", "(II)Z"⟩ : MethodName)) hown (mvT hZ (hw _ (List.mem_of_getElem? (i := 14) rfl))) (mvT hZ (hw _ (List.mem_of_getElem? (i := 15) rfl))) (mvT hZ (hw _ (List.mem_of_getElem? (i := 16) rfl))) (mvT hZ (hw _ (List.mem_of_getElem? (i := 17) rfl))) (by decide) (backOf (W := 4) (own_r3 l Z a0 hw [] bt (7 : Int32)  T289.heap n0 SZ289 ) hZ (hw _ (List.mem_of_getElem? (i := 17) rfl)) (hw _ (List.mem_of_getElem? (i := 16) rfl)) (by decide) (by decide)) (g := (mkF m 110 #[.val (.int s0), .val (.int n1), .val (.int bt), .val (.long nw), .second, .val (.int z), .val (.int n_), .val (.ref b252), .unset, .unset, .unset, .unset, .unset, .unset, .unset] [(.int (7 : Int32)), (.int bt), (.int (own_f3 bt (6 : Int32))), (.long nw), (.ref b252)])) rfl (by rw [hml]; rfl) (argsL := [(.int bt), (.int (7 : Int32))]) (rest := [(.int (own_f3 bt (6 : Int32))), (.long nw), (.ref b252)]) (lenOf own_pd_2 rfl) rfl (by show 2 * 0 + _ ≤ _; exact Nat.le_of_eq rfl) (hb hby at_110) (fun _ _ => ⟨rfl, e297, (by decide : 3 + 0 ≤ _), (by decide : 14 + 0 ≤ _)⟩)
          dsimp only [Pt.U, Pt.locs, Pt.cells, Pt.slots] at X298 l298 y298 z298 st298 hQ298
          subst l298 y298 z298
          obtain ⟨rfl, N298q, e298⟩ := hQ298
          have N298 := Fr.app N297 N298q
          refine own_by st298 ?_
          show own_Go p e below T298 (mkF m 113 #[.val (.int s0), .val (.int n1), .val (.int bt), .val (.long nw), .second, .val (.int z), .val (.int n_), .val (.ref b252), .unset, .unset, .unset, .unset, .unset, .unset, .unset] [(.int (own_f3 bt (7 : Int32))), (.int (own_f3 bt (6 : Int32))), (.long nw), (.ref b252)]) _
          obtain ⟨cq299, kq299, q299a, q299b, q299c⟩ := isOf hZ e298 f290
          obtain ⟨_, _, ⟨T299, L299, k299, n299⟩, -, X299, ⟨Lc299, hQ299, l299, y299, z299⟩, st299⟩ := X298.virtualBack hx (y := (⟨"com/example/fairlead/fairlead/policy/CountWindow", "record", "(JZZ)V"⟩ : MethodName)) (z := (⟨"com/example/fairlead/fairlead/policy/CountWindow", "record", "(JZZ)V"⟩ : MethodName)) hown (mvT hZ (hw _ (List.mem_of_getElem? (i := 18) rfl))) (mvT hZ (hw _ (List.mem_of_getElem? (i := 19) rfl))) (notFace_of_selects (args := #[]) (mvT hZ (hw _ (List.mem_of_getElem? (i := 21) rfl)))) (mvT hZ (hw _ (List.mem_of_getElem? (i := 21) rfl))) (mvT hZ (hw _ (List.mem_of_getElem? (i := 20) rfl))) (by decide) (backOf (W := 0) (own_r4 l Z a0 hw [] b252 nw (own_f3 bt (6 : Int32)) (own_f3 bt (7 : Int32)) fa259 sa259 (own_C z 3) (own_F (own_b (own_f3 bt (0 : Int32)) (own_f3 bt (2 : Int32)) (own_f3 bt (4 : Int32)) (own_f3 bt (6 : Int32)) (own_f3 bt (8 : Int32))) z 3) (own_F (own_b (own_f3 bt (1 : Int32)) (own_f3 bt (3 : Int32)) (own_f3 bt (5 : Int32)) (own_f3 bt (7 : Int32)) (own_f3 bt (9 : Int32))) z 3) (own_X z 3) z (own_V (own_b (own_f3 bt (0 : Int32)) (own_f3 bt (2 : Int32)) (own_f3 bt (4 : Int32)) (own_f3 bt (6 : Int32)) (own_f3 bt (8 : Int32))) z 3) (own_V (own_b (own_f3 bt (1 : Int32)) (own_f3 bt (3 : Int32)) (own_f3 bt (5 : Int32)) (own_f3 bt (7 : Int32)) (own_f3 bt (9 : Int32))) z 3) z.toNatClampNeg (own_X z 3).toNatClampNeg (own_A (own_b (own_f3 bt (0 : Int32)) (own_f3 bt (2 : Int32)) (own_f3 bt (4 : Int32)) (own_f3 bt (6 : Int32)) (own_f3 bt (8 : Int32))) z 3) (own_A (own_b (own_f3 bt (1 : Int32)) (own_f3 bt (3 : Int32)) (own_f3 bt (5 : Int32)) (own_f3 bt (7 : Int32)) (own_f3 bt (9 : Int32))) z 3) T289.heap n0 SZ289 hz4.2.2 (own_Xlt' z hz1 hz2 3 (by decide)).1 (own_Xlt' z hz1 hz2 3 (by decide)).2 (own_V_eq (own_b (own_f3 bt (0 : Int32)) (own_f3 bt (2 : Int32)) (own_f3 bt (4 : Int32)) (own_f3 bt (6 : Int32)) (own_f3 bt (8 : Int32))) z hfb 3).1 (own_V_eq (own_b (own_f3 bt (1 : Int32)) (own_f3 bt (3 : Int32)) (own_f3 bt (5 : Int32)) (own_f3 bt (7 : Int32)) (own_f3 bt (9 : Int32))) z hsb 3).1 (own_V_eq (own_b (own_f3 bt (0 : Int32)) (own_f3 bt (2 : Int32)) (own_f3 bt (4 : Int32)) (own_f3 bt (6 : Int32)) (own_f3 bt (8 : Int32))) z hfb 3).2 (own_V_eq (own_b (own_f3 bt (1 : Int32)) (own_f3 bt (3 : Int32)) (own_f3 bt (5 : Int32)) (own_f3 bt (7 : Int32)) (own_f3 bt (9 : Int32))) z hsb 3).2 (own_bit01 _ _) (own_bit01 _ _) f290 f0_289 f1_289 f291 f292 f293 f294 ge_b252 f295 ga259 f296 gs259 na259 ns259 nas259) hZ (hw _ (List.mem_of_getElem? (i := 22) rfl)) (hw _ (List.mem_of_getElem? (i := 2) rfl)) (by decide) (by decide)) q299a q299c (g := (mkF m 113 #[.val (.int s0), .val (.int n1), .val (.int bt), .val (.long nw), .second, .val (.int z), .val (.int n_), .val (.ref b252), .unset, .unset, .unset, .unset, .unset, .unset, .unset] [(.int (own_f3 bt (7 : Int32))), (.int (own_f3 bt (6 : Int32))), (.long nw), (.ref b252)])) rfl (by rw [hml]; rfl) (Steps.refl _) (argsL := [(.long nw), (.int (own_f3 bt (6 : Int32))), (.int (own_f3 bt (7 : Int32)))]) (rest := []) (lenOf own_pd_3 rfl) rfl (by show 2 * 0 + _ ≤ _; exact Nat.le_of_eq rfl) (hb hby at_113) (fun _ _ => ⟨rfl, e298, (by decide : 3 + 0 ≤ _), (by decide : 14 + 0 ≤ _)⟩)
          dsimp only [Pt.U, Pt.locs, Pt.cells, Pt.slots] at X299 l299 y299 z299 st299 hQ299
          subst l299 y299 z299
          obtain ⟨rfl, N299q, K299, f0_299, f1_299, f2_299, f3_299, f4_299, f5_299, Aa299, As299⟩ := hQ299
          have N299 := Fr.app N298 N299q
          have f300 := f290.keep K299
          have SZ299 : n0 ≤ T299.heap.size := Nat.le_trans SZ289 K299.1
          refine own_by (fun t k => st299.trans k) ?_
          show own_Go p e below T299 (mkF m 116 #[.val (.int s0), .val (.int n1), .val (.int bt), .val (.long nw), .second, .val (.int z), .val (.int n_), .val (.ref b252), .unset, .unset, .unset, .unset, .unset, .unset, .unset] []) _
          have f301 : Fld Z T299.heap b252 "com/example/fairlead/fairlead/policy/CountWindow" "calls" "I" (.int (own_C z 4)) := f2_299
          have f302 : Fld Z T299.heap b252 "com/example/fairlead/fairlead/policy/CountWindow" "failures" "I" (.int (own_F (own_b (own_f3 bt (0 : Int32)) (own_f3 bt (2 : Int32)) (own_f3 bt (4 : Int32)) (own_f3 bt (6 : Int32)) (own_f3 bt (8 : Int32))) z 4)) := f3_299
          have f303 : Fld Z T299.heap b252 "com/example/fairlead/fairlead/policy/CountWindow" "slowCalls" "I" (.int (own_F (own_b (own_f3 bt (1 : Int32)) (own_f3 bt (3 : Int32)) (own_f3 bt (5 : Int32)) (own_f3 bt (7 : Int32)) (own_f3 bt (9 : Int32))) z 4)) := f4_299
          have f304 : Fld Z T299.heap b252 "com/example/fairlead/fairlead/policy/CountWindow" "next" "I" (.int (own_X z 4)) := f5_299
          have f305 : own_Av Z T299.heap fa259 .boolean z.toNatClampNeg (own_A (own_b (own_f3 bt (0 : Int32)) (own_f3 bt (2 : Int32)) (own_f3 bt (4 : Int32)) (own_f3 bt (6 : Int32)) (own_f3 bt (8 : Int32))) z 4) := Aa299
          have f306 : own_Av Z T299.heap sa259 .boolean z.toNatClampNeg (own_A (own_b (own_f3 bt (1 : Int32)) (own_f3 bt (3 : Int32)) (own_f3 bt (5 : Int32)) (own_f3 bt (7 : Int32)) (own_f3 bt (9 : Int32))) z 4) := As299
          refine own_s_iload X299.here hx (hb hby at_116) rfl ?_
          refine own_s_iconst X299.here hx (4 : Int32) (hb hby at_118) rfl ?_
          by_cases hn4 : (4 : Int32) < n_
          ·
            refine own_s_icmpNo X299.here hx (hb hby at_119) (Jvm.Free.XT.ii_le_f hn4) ?_
            refine own_s_aload X299.here hx (hb hby at_122) rfl rfl ?_
            refine own_s_lloadN X299.here hx (hb hby at_124) rfl ?_
            refine own_s_iloadN X299.here hx (hb hby at_125) rfl ?_
            refine own_s_bipush X299.here hx (8 : Int32) (hb hby at_126) rfl ?_
            obtain ⟨_, _, ⟨T307, L307, k307, n307⟩, -, X307, ⟨Lc307, hQ307, l307, y307, z307⟩, st307⟩ := Jvm.LawKit.callS X299 hx (y := (⟨"com/example/fairlead/fairlead/policy/CountWindowRecordPinLaw", "bit", "(II)Z"⟩ : MethodName)) hown (mvT hZ (hw _ (List.mem_of_getElem? (i := 14) rfl))) (mvT hZ (hw _ (List.mem_of_getElem? (i := 15) rfl))) (mvT hZ (hw _ (List.mem_of_getElem? (i := 16) rfl))) (mvT hZ (hw _ (List.mem_of_getElem? (i := 17) rfl))) (by decide) (backOf (W := 3) (own_r3 l Z a0 hw [] bt (8 : Int32)  T299.heap n0 SZ299 ) hZ (hw _ (List.mem_of_getElem? (i := 17) rfl)) (hw _ (List.mem_of_getElem? (i := 16) rfl)) (by decide) (by decide)) (g := (mkF m 128 #[.val (.int s0), .val (.int n1), .val (.int bt), .val (.long nw), .second, .val (.int z), .val (.int n_), .val (.ref b252), .unset, .unset, .unset, .unset, .unset, .unset, .unset] [(.int (8 : Int32)), (.int bt), (.long nw), (.ref b252)])) rfl (by rw [hml]; rfl) (argsL := [(.int bt), (.int (8 : Int32))]) (rest := [(.long nw), (.ref b252)]) (lenOf own_pd_2 rfl) rfl (by show 2 * 0 + _ ≤ _; exact Nat.le_of_eq rfl) (hb hby at_128) (fun _ _ => ⟨rfl, rfl, (by decide : 3 + 0 ≤ _), (by decide : 14 + 0 ≤ _)⟩)
            dsimp only [Pt.U, Pt.locs, Pt.cells, Pt.slots] at X307 l307 y307 z307 st307 hQ307
            subst l307 y307 z307
            obtain ⟨rfl, N307q, e307⟩ := hQ307
            have N307 := Fr.app N299 N307q
            refine own_by st307 ?_
            show own_Go p e below T307 (mkF m 131 #[.val (.int s0), .val (.int n1), .val (.int bt), .val (.long nw), .second, .val (.int z), .val (.int n_), .val (.ref b252), .unset, .unset, .unset, .unset, .unset, .unset, .unset] [(.int (own_f3 bt (8 : Int32))), (.long nw), (.ref b252)]) _
            refine own_s_iloadN X307.here hx (hb hby at_131) rfl ?_
            refine own_s_bipush X307.here hx (9 : Int32) (hb hby at_132) rfl ?_
            obtain ⟨_, _, ⟨T308, L308, k308, n308⟩, -, X308, ⟨Lc308, hQ308, l308, y308, z308⟩, st308⟩ := Jvm.LawKit.callS X307 hx (y := (⟨"com/example/fairlead/fairlead/policy/CountWindowRecordPinLaw", "bit", "(II)Z"⟩ : MethodName)) hown (mvT hZ (hw _ (List.mem_of_getElem? (i := 14) rfl))) (mvT hZ (hw _ (List.mem_of_getElem? (i := 15) rfl))) (mvT hZ (hw _ (List.mem_of_getElem? (i := 16) rfl))) (mvT hZ (hw _ (List.mem_of_getElem? (i := 17) rfl))) (by decide) (backOf (W := 4) (own_r3 l Z a0 hw [] bt (9 : Int32)  T299.heap n0 SZ299 ) hZ (hw _ (List.mem_of_getElem? (i := 17) rfl)) (hw _ (List.mem_of_getElem? (i := 16) rfl)) (by decide) (by decide)) (g := (mkF m 134 #[.val (.int s0), .val (.int n1), .val (.int bt), .val (.long nw), .second, .val (.int z), .val (.int n_), .val (.ref b252), .unset, .unset, .unset, .unset, .unset, .unset, .unset] [(.int (9 : Int32)), (.int bt), (.int (own_f3 bt (8 : Int32))), (.long nw), (.ref b252)])) rfl (by rw [hml]; rfl) (argsL := [(.int bt), (.int (9 : Int32))]) (rest := [(.int (own_f3 bt (8 : Int32))), (.long nw), (.ref b252)]) (lenOf own_pd_2 rfl) rfl (by show 2 * 0 + _ ≤ _; exact Nat.le_of_eq rfl) (hb hby at_134) (fun _ _ => ⟨rfl, e307, (by decide : 3 + 0 ≤ _), (by decide : 14 + 0 ≤ _)⟩)
            dsimp only [Pt.U, Pt.locs, Pt.cells, Pt.slots] at X308 l308 y308 z308 st308 hQ308
            subst l308 y308 z308
            obtain ⟨rfl, N308q, e308⟩ := hQ308
            have N308 := Fr.app N307 N308q
            refine own_by st308 ?_
            show own_Go p e below T308 (mkF m 137 #[.val (.int s0), .val (.int n1), .val (.int bt), .val (.long nw), .second, .val (.int z), .val (.int n_), .val (.ref b252), .unset, .unset, .unset, .unset, .unset, .unset, .unset] [(.int (own_f3 bt (9 : Int32))), (.int (own_f3 bt (8 : Int32))), (.long nw), (.ref b252)]) _
            obtain ⟨cq309, kq309, q309a, q309b, q309c⟩ := isOf hZ e308 f300
            obtain ⟨_, _, ⟨T309, L309, k309, n309⟩, -, X309, ⟨Lc309, hQ309, l309, y309, z309⟩, st309⟩ := X308.virtualBack hx (y := (⟨"com/example/fairlead/fairlead/policy/CountWindow", "record", "(JZZ)V"⟩ : MethodName)) (z := (⟨"com/example/fairlead/fairlead/policy/CountWindow", "record", "(JZZ)V"⟩ : MethodName)) hown (mvT hZ (hw _ (List.mem_of_getElem? (i := 18) rfl))) (mvT hZ (hw _ (List.mem_of_getElem? (i := 19) rfl))) (notFace_of_selects (args := #[]) (mvT hZ (hw _ (List.mem_of_getElem? (i := 21) rfl)))) (mvT hZ (hw _ (List.mem_of_getElem? (i := 21) rfl))) (mvT hZ (hw _ (List.mem_of_getElem? (i := 20) rfl))) (by decide) (backOf (W := 0) (own_r4 l Z a0 hw [] b252 nw (own_f3 bt (8 : Int32)) (own_f3 bt (9 : Int32)) fa259 sa259 (own_C z 4) (own_F (own_b (own_f3 bt (0 : Int32)) (own_f3 bt (2 : Int32)) (own_f3 bt (4 : Int32)) (own_f3 bt (6 : Int32)) (own_f3 bt (8 : Int32))) z 4) (own_F (own_b (own_f3 bt (1 : Int32)) (own_f3 bt (3 : Int32)) (own_f3 bt (5 : Int32)) (own_f3 bt (7 : Int32)) (own_f3 bt (9 : Int32))) z 4) (own_X z 4) z (own_V (own_b (own_f3 bt (0 : Int32)) (own_f3 bt (2 : Int32)) (own_f3 bt (4 : Int32)) (own_f3 bt (6 : Int32)) (own_f3 bt (8 : Int32))) z 4) (own_V (own_b (own_f3 bt (1 : Int32)) (own_f3 bt (3 : Int32)) (own_f3 bt (5 : Int32)) (own_f3 bt (7 : Int32)) (own_f3 bt (9 : Int32))) z 4) z.toNatClampNeg (own_X z 4).toNatClampNeg (own_A (own_b (own_f3 bt (0 : Int32)) (own_f3 bt (2 : Int32)) (own_f3 bt (4 : Int32)) (own_f3 bt (6 : Int32)) (own_f3 bt (8 : Int32))) z 4) (own_A (own_b (own_f3 bt (1 : Int32)) (own_f3 bt (3 : Int32)) (own_f3 bt (5 : Int32)) (own_f3 bt (7 : Int32)) (own_f3 bt (9 : Int32))) z 4) T299.heap n0 SZ299 hz4.2.2 (own_Xlt' z hz1 hz2 4 (by decide)).1 (own_Xlt' z hz1 hz2 4 (by decide)).2 (own_V_eq (own_b (own_f3 bt (0 : Int32)) (own_f3 bt (2 : Int32)) (own_f3 bt (4 : Int32)) (own_f3 bt (6 : Int32)) (own_f3 bt (8 : Int32))) z hfb 4).1 (own_V_eq (own_b (own_f3 bt (1 : Int32)) (own_f3 bt (3 : Int32)) (own_f3 bt (5 : Int32)) (own_f3 bt (7 : Int32)) (own_f3 bt (9 : Int32))) z hsb 4).1 (own_V_eq (own_b (own_f3 bt (0 : Int32)) (own_f3 bt (2 : Int32)) (own_f3 bt (4 : Int32)) (own_f3 bt (6 : Int32)) (own_f3 bt (8 : Int32))) z hfb 4).2 (own_V_eq (own_b (own_f3 bt (1 : Int32)) (own_f3 bt (3 : Int32)) (own_f3 bt (5 : Int32)) (own_f3 bt (7 : Int32)) (own_f3 bt (9 : Int32))) z hsb 4).2 (own_bit01 _ _) (own_bit01 _ _) f300 f0_299 f1_299 f301 f302 f303 f304 ge_b252 f305 ga259 f306 gs259 na259 ns259 nas259) hZ (hw _ (List.mem_of_getElem? (i := 22) rfl)) (hw _ (List.mem_of_getElem? (i := 2) rfl)) (by decide) (by decide)) q309a q309c (g := (mkF m 137 #[.val (.int s0), .val (.int n1), .val (.int bt), .val (.long nw), .second, .val (.int z), .val (.int n_), .val (.ref b252), .unset, .unset, .unset, .unset, .unset, .unset, .unset] [(.int (own_f3 bt (9 : Int32))), (.int (own_f3 bt (8 : Int32))), (.long nw), (.ref b252)])) rfl (by rw [hml]; rfl) (Steps.refl _) (argsL := [(.long nw), (.int (own_f3 bt (8 : Int32))), (.int (own_f3 bt (9 : Int32)))]) (rest := []) (lenOf own_pd_3 rfl) rfl (by show 2 * 0 + _ ≤ _; exact Nat.le_of_eq rfl) (hb hby at_137) (fun _ _ => ⟨rfl, e308, (by decide : 3 + 0 ≤ _), (by decide : 14 + 0 ≤ _)⟩)
            dsimp only [Pt.U, Pt.locs, Pt.cells, Pt.slots] at X309 l309 y309 z309 st309 hQ309
            subst l309 y309 z309
            obtain ⟨rfl, N309q, K309, f0_309, f1_309, f2_309, f3_309, f4_309, f5_309, Aa309, As309⟩ := hQ309
            have N309 := Fr.app N308 N309q
            have f310 := f300.keep K309
            have SZ309 : n0 ≤ T309.heap.size := Nat.le_trans SZ299 K309.1
            refine own_by (fun t k => st309.trans k) ?_
            show own_Go p e below T309 (mkF m 140 #[.val (.int s0), .val (.int n1), .val (.int bt), .val (.long nw), .second, .val (.int z), .val (.int n_), .val (.ref b252), .unset, .unset, .unset, .unset, .unset, .unset, .unset] []) _
            have f311 : Fld Z T309.heap b252 "com/example/fairlead/fairlead/policy/CountWindow" "calls" "I" (.int (own_C z 5)) := f2_309
            have f312 : Fld Z T309.heap b252 "com/example/fairlead/fairlead/policy/CountWindow" "failures" "I" (.int (own_F (own_b (own_f3 bt (0 : Int32)) (own_f3 bt (2 : Int32)) (own_f3 bt (4 : Int32)) (own_f3 bt (6 : Int32)) (own_f3 bt (8 : Int32))) z 5)) := f3_309
            have f313 : Fld Z T309.heap b252 "com/example/fairlead/fairlead/policy/CountWindow" "slowCalls" "I" (.int (own_F (own_b (own_f3 bt (1 : Int32)) (own_f3 bt (3 : Int32)) (own_f3 bt (5 : Int32)) (own_f3 bt (7 : Int32)) (own_f3 bt (9 : Int32))) z 5)) := f4_309
            have f314 : Fld Z T309.heap b252 "com/example/fairlead/fairlead/policy/CountWindow" "next" "I" (.int (own_X z 5)) := f5_309
            have f315 : own_Av Z T309.heap fa259 .boolean z.toNatClampNeg (own_A (own_b (own_f3 bt (0 : Int32)) (own_f3 bt (2 : Int32)) (own_f3 bt (4 : Int32)) (own_f3 bt (6 : Int32)) (own_f3 bt (8 : Int32))) z 5) := Aa309
            have f316 : own_Av Z T309.heap sa259 .boolean z.toNatClampNeg (own_A (own_b (own_f3 bt (1 : Int32)) (own_f3 bt (3 : Int32)) (own_f3 bt (5 : Int32)) (own_f3 bt (7 : Int32)) (own_f3 bt (9 : Int32))) z 5) := As309
            have hnk : n_ = Int32.ofNat 5 := by
              apply Int32.toInt_inj.mp
              rw [show (Int32.ofNat 5).toInt = 5 from by decide]
              simp only [Int32.lt_iff_toInt_lt, show (0 : Int32).toInt = 0 from by decide, show (1 : Int32).toInt = 1 from by decide, show (2 : Int32).toInt = 2 from by decide, show (3 : Int32).toInt = 3 from by decide, show (4 : Int32).toInt = 4 from by decide] at hn0 hn1 hn2 hn3 hn4
              omega
            exact own_p140 hx hZ hw hby hml hown hnm hret hlk  s0 n1 bt z n_ nw b252 5 X309 rfl N309 SZ309 (by decide) hnk hz1 hz2 f310 f311 f312 f313
          ·
            show own_Go p e below T299 (mkF m 119 #[.val (.int s0), .val (.int n1), .val (.int bt), .val (.long nw), .second, .val (.int z), .val (.int n_), .val (.ref b252), .unset, .unset, .unset, .unset, .unset, .unset, .unset] [(.int (4 : Int32)), (.int n_)]) _
            refine own_s_icmpYes X299.here hx 140 (hb hby at_119) (Jvm.Free.XT.ii_le_t hn4) (by decide) (by decide) ?_
            have hnk : n_ = Int32.ofNat 4 := by
              apply Int32.toInt_inj.mp
              rw [show (Int32.ofNat 4).toInt = 4 from by decide]
              simp only [Int32.lt_iff_toInt_lt, show (0 : Int32).toInt = 0 from by decide, show (1 : Int32).toInt = 1 from by decide, show (2 : Int32).toInt = 2 from by decide, show (3 : Int32).toInt = 3 from by decide, show (4 : Int32).toInt = 4 from by decide] at hn0 hn1 hn2 hn3 hn4
              omega
            exact own_p140 hx hZ hw hby hml hown hnm hret hlk  s0 n1 bt z n_ nw b252 4 X299 rfl N299 SZ299 (by decide) hnk hz1 hz2 f300 f301 f302 f303
        ·
          show own_Go p e below T289 (mkF m 95 #[.val (.int s0), .val (.int n1), .val (.int bt), .val (.long nw), .second, .val (.int z), .val (.int n_), .val (.ref b252), .unset, .unset, .unset, .unset, .unset, .unset, .unset] [(.int (3 : Int32)), (.int n_)]) _
          refine own_s_icmpYes X289.here hx 116 (hb hby at_95) (Jvm.Free.XT.ii_le_t hn3) (by decide) (by decide) ?_
          refine own_s_iload X289.here hx (hb hby at_116) rfl ?_
          refine own_s_iconst X289.here hx (4 : Int32) (hb hby at_118) rfl ?_
          show own_Go p e below T289 (mkF m 119 #[.val (.int s0), .val (.int n1), .val (.int bt), .val (.long nw), .second, .val (.int z), .val (.int n_), .val (.ref b252), .unset, .unset, .unset, .unset, .unset, .unset, .unset] [(.int (4 : Int32)), (.int n_)]) _
          refine own_s_icmpYes X289.here hx 140 (hb hby at_119) (Jvm.Free.XT.ii_le_t ((own_le_4 hn3))) (by decide) (by decide) ?_
          have hnk : n_ = Int32.ofNat 3 := by
            apply Int32.toInt_inj.mp
            rw [show (Int32.ofNat 3).toInt = 3 from by decide]
            simp only [Int32.lt_iff_toInt_lt, show (0 : Int32).toInt = 0 from by decide, show (1 : Int32).toInt = 1 from by decide, show (2 : Int32).toInt = 2 from by decide, show (3 : Int32).toInt = 3 from by decide, show (4 : Int32).toInt = 4 from by decide] at hn0 hn1 hn2 hn3
            omega
          exact own_p140 hx hZ hw hby hml hown hnm hret hlk  s0 n1 bt z n_ nw b252 3 X289 rfl N289 SZ289 (by decide) hnk hz1 hz2 f290 f291 f292 f293
      ·
        show own_Go p e below T279 (mkF m 73 #[.val (.int s0), .val (.int n1), .val (.int bt), .val (.long nw), .second, .val (.int z), .val (.int n_), .val (.ref b252), .unset, .unset, .unset, .unset, .unset, .unset, .unset] [(.int (2 : Int32)), (.int n_)]) _
        refine own_s_icmpYes X279.here hx 92 (hb hby at_73) (Jvm.Free.XT.ii_le_t hn2) (by decide) (by decide) ?_
        refine own_s_iload X279.here hx (hb hby at_92) rfl ?_
        refine own_s_iconst X279.here hx (3 : Int32) (hb hby at_94) rfl ?_
        show own_Go p e below T279 (mkF m 95 #[.val (.int s0), .val (.int n1), .val (.int bt), .val (.long nw), .second, .val (.int z), .val (.int n_), .val (.ref b252), .unset, .unset, .unset, .unset, .unset, .unset, .unset] [(.int (3 : Int32)), (.int n_)]) _
        refine own_s_icmpYes X279.here hx 116 (hb hby at_95) (Jvm.Free.XT.ii_le_t ((own_le_3 hn2))) (by decide) (by decide) ?_
        refine own_s_iload X279.here hx (hb hby at_116) rfl ?_
        refine own_s_iconst X279.here hx (4 : Int32) (hb hby at_118) rfl ?_
        show own_Go p e below T279 (mkF m 119 #[.val (.int s0), .val (.int n1), .val (.int bt), .val (.long nw), .second, .val (.int z), .val (.int n_), .val (.ref b252), .unset, .unset, .unset, .unset, .unset, .unset, .unset] [(.int (4 : Int32)), (.int n_)]) _
        refine own_s_icmpYes X279.here hx 140 (hb hby at_119) (Jvm.Free.XT.ii_le_t ((own_le_4 hn2))) (by decide) (by decide) ?_
        have hnk : n_ = Int32.ofNat 2 := by
          apply Int32.toInt_inj.mp
          rw [show (Int32.ofNat 2).toInt = 2 from by decide]
          simp only [Int32.lt_iff_toInt_lt, show (0 : Int32).toInt = 0 from by decide, show (1 : Int32).toInt = 1 from by decide, show (2 : Int32).toInt = 2 from by decide, show (3 : Int32).toInt = 3 from by decide, show (4 : Int32).toInt = 4 from by decide] at hn0 hn1 hn2
          omega
        exact own_p140 hx hZ hw hby hml hown hnm hret hlk  s0 n1 bt z n_ nw b252 2 X279 rfl N279 SZ279 (by decide) hnk hz1 hz2 f280 f281 f282 f283
    ·
      show own_Go p e below T269 (mkF m 51 #[.val (.int s0), .val (.int n1), .val (.int bt), .val (.long nw), .second, .val (.int z), .val (.int n_), .val (.ref b252), .unset, .unset, .unset, .unset, .unset, .unset, .unset] [(.int (1 : Int32)), (.int n_)]) _
      refine own_s_icmpYes X269.here hx 70 (hb hby at_51) (Jvm.Free.XT.ii_le_t hn1) (by decide) (by decide) ?_
      refine own_s_iload X269.here hx (hb hby at_70) rfl ?_
      refine own_s_iconst X269.here hx (2 : Int32) (hb hby at_72) rfl ?_
      show own_Go p e below T269 (mkF m 73 #[.val (.int s0), .val (.int n1), .val (.int bt), .val (.long nw), .second, .val (.int z), .val (.int n_), .val (.ref b252), .unset, .unset, .unset, .unset, .unset, .unset, .unset] [(.int (2 : Int32)), (.int n_)]) _
      refine own_s_icmpYes X269.here hx 92 (hb hby at_73) (Jvm.Free.XT.ii_le_t ((own_le_2 hn1))) (by decide) (by decide) ?_
      refine own_s_iload X269.here hx (hb hby at_92) rfl ?_
      refine own_s_iconst X269.here hx (3 : Int32) (hb hby at_94) rfl ?_
      show own_Go p e below T269 (mkF m 95 #[.val (.int s0), .val (.int n1), .val (.int bt), .val (.long nw), .second, .val (.int z), .val (.int n_), .val (.ref b252), .unset, .unset, .unset, .unset, .unset, .unset, .unset] [(.int (3 : Int32)), (.int n_)]) _
      refine own_s_icmpYes X269.here hx 116 (hb hby at_95) (Jvm.Free.XT.ii_le_t ((own_le_3 hn1))) (by decide) (by decide) ?_
      refine own_s_iload X269.here hx (hb hby at_116) rfl ?_
      refine own_s_iconst X269.here hx (4 : Int32) (hb hby at_118) rfl ?_
      show own_Go p e below T269 (mkF m 119 #[.val (.int s0), .val (.int n1), .val (.int bt), .val (.long nw), .second, .val (.int z), .val (.int n_), .val (.ref b252), .unset, .unset, .unset, .unset, .unset, .unset, .unset] [(.int (4 : Int32)), (.int n_)]) _
      refine own_s_icmpYes X269.here hx 140 (hb hby at_119) (Jvm.Free.XT.ii_le_t ((own_le_4 hn1))) (by decide) (by decide) ?_
      have hnk : n_ = Int32.ofNat 1 := by
        apply Int32.toInt_inj.mp
        rw [show (Int32.ofNat 1).toInt = 1 from by decide]
        simp only [Int32.lt_iff_toInt_lt, show (0 : Int32).toInt = 0 from by decide, show (1 : Int32).toInt = 1 from by decide, show (2 : Int32).toInt = 2 from by decide, show (3 : Int32).toInt = 3 from by decide, show (4 : Int32).toInt = 4 from by decide] at hn0 hn1
        omega
      exact own_p140 hx hZ hw hby hml hown hnm hret hlk  s0 n1 bt z n_ nw b252 1 X269 rfl N269 SZ269 (by decide) hnk hz1 hz2 f270 f271 f272 f273
  ·
    show own_Go p e below T259 (mkF m 29 #[.val (.int s0), .val (.int n1), .val (.int bt), .val (.long nw), .second, .val (.int z), .val (.int n_), .val (.ref b252), .unset, .unset, .unset, .unset, .unset, .unset, .unset] [(.int n_)]) _
    refine own_s_ifYes X259.here hx 48 (hb hby at_29) (Jvm.Free.XT.i0_le_t hn0) (by decide) (by decide) ?_
    refine own_s_iload X259.here hx (hb hby at_48) rfl ?_
    refine own_s_iconst X259.here hx (1 : Int32) (hb hby at_50) rfl ?_
    show own_Go p e below T259 (mkF m 51 #[.val (.int s0), .val (.int n1), .val (.int bt), .val (.long nw), .second, .val (.int z), .val (.int n_), .val (.ref b252), .unset, .unset, .unset, .unset, .unset, .unset, .unset] [(.int (1 : Int32)), (.int n_)]) _
    refine own_s_icmpYes X259.here hx 70 (hb hby at_51) (Jvm.Free.XT.ii_le_t ((own_le_1 hn0))) (by decide) (by decide) ?_
    refine own_s_iload X259.here hx (hb hby at_70) rfl ?_
    refine own_s_iconst X259.here hx (2 : Int32) (hb hby at_72) rfl ?_
    show own_Go p e below T259 (mkF m 73 #[.val (.int s0), .val (.int n1), .val (.int bt), .val (.long nw), .second, .val (.int z), .val (.int n_), .val (.ref b252), .unset, .unset, .unset, .unset, .unset, .unset, .unset] [(.int (2 : Int32)), (.int n_)]) _
    refine own_s_icmpYes X259.here hx 92 (hb hby at_73) (Jvm.Free.XT.ii_le_t ((own_le_2 hn0))) (by decide) (by decide) ?_
    refine own_s_iload X259.here hx (hb hby at_92) rfl ?_
    refine own_s_iconst X259.here hx (3 : Int32) (hb hby at_94) rfl ?_
    show own_Go p e below T259 (mkF m 95 #[.val (.int s0), .val (.int n1), .val (.int bt), .val (.long nw), .second, .val (.int z), .val (.int n_), .val (.ref b252), .unset, .unset, .unset, .unset, .unset, .unset, .unset] [(.int (3 : Int32)), (.int n_)]) _
    refine own_s_icmpYes X259.here hx 116 (hb hby at_95) (Jvm.Free.XT.ii_le_t ((own_le_3 hn0))) (by decide) (by decide) ?_
    refine own_s_iload X259.here hx (hb hby at_116) rfl ?_
    refine own_s_iconst X259.here hx (4 : Int32) (hb hby at_118) rfl ?_
    show own_Go p e below T259 (mkF m 119 #[.val (.int s0), .val (.int n1), .val (.int bt), .val (.long nw), .second, .val (.int z), .val (.int n_), .val (.ref b252), .unset, .unset, .unset, .unset, .unset, .unset, .unset] [(.int (4 : Int32)), (.int n_)]) _
    refine own_s_icmpYes X259.here hx 140 (hb hby at_119) (Jvm.Free.XT.ii_le_t ((own_le_4 hn0))) (by decide) (by decide) ?_
    have hnk : n_ = Int32.ofNat 0 := by
      apply Int32.toInt_inj.mp
      rw [show (Int32.ofNat 0).toInt = 0 from by decide]
      simp only [Int32.lt_iff_toInt_lt, show (0 : Int32).toInt = 0 from by decide, show (1 : Int32).toInt = 1 from by decide, show (2 : Int32).toInt = 2 from by decide, show (3 : Int32).toInt = 3 from by decide, show (4 : Int32).toInt = 4 from by decide] at hn0
      omega
    exact own_p140 hx hZ hw hby hml hown hnm hret hlk  s0 n1 bt z n_ nw b252 0 X259 rfl N259 SZ259 (by decide) hnk hz1 hz2 f260 f261 f262 f263
set_option maxRecDepth 65536 in
set_option maxHeartbeats 40000000 in
theorem own_comes {Post : Tables → Env → Array Value → State → Outcome → State → Prop} (hpost : ∀ tb e args s v u, (limb_1_1.after args s (.returned v) u = true ∧ limb_1_2.after args s (.returned v) u = true ∧ True) → FrameEnd s (.returned v) u (Jvm.fieldLocs frame_1_writes args s ++ Jvm.arrayLocs frame_1_arrays args s ++ Jvm.staticLocs frame_1_statics s) 16 128 → Post tb e args s (.returned v) u) :
    ArmFor flags0 classFile x code maxLocals ret World_1 tables_1 room_1 Calls_1 rest_1 Pre_1 Post := by
  intro l hfl _ _ p e ha hc hk s m args below hf hA hF happ hP
  obtain ⟨hcalls, hrest, hpre⟩ := hP
  obtain ⟨-, -, -, hnamed, -, -, -, hat⟩ := (Spec.applies_iff hf).mp happ
  obtain ⟨hg, hn⟩ := and_e (Cond.before_iff.mp (show (Jvm.Cond.and given_1 narrow_1).before args s = true from hpre))
  obtain ⟨g1, g2⟩ := and_e hg
  obtain ⟨g3, g4⟩ := and_e g2
  obtain ⟨g5, g6⟩ := and_e g4
  obtain ⟨g7, g8⟩ := and_e g6
  obtain ⟨w0, w1, w2, w3, rfl⟩ : ∃ w0 w1 w2 w3 : Value, args = #[w0, w1, w2, w3] := by
    have hs : args.size = 4 := by simpa [Cond.value, given_1] using g1
    obtain ⟨L⟩ := args
    match L, hs with
    | [w0, w1, w2, w3], _ => exact ⟨w0, w1, w2, w3, rfl⟩
  have hw := fun d (hd : d ∈ tables_1) => atoms_spec (ws := Jvm.Cond.code x code maxLocals ret :: tables_1) hat d (List.mem_cons_of_mem _ hd)
  obtain ⟨i0, ei0⟩ := is_v g3
  obtain rfl : w0 = (.int i0) := Option.some.inj ei0
  obtain ⟨i1, ei1⟩ := is_v g5
  obtain rfl : w1 = (.int i1) := Option.some.inj ei1
  obtain ⟨i2, ei2⟩ := is_v g7
  obtain rfl : w2 = (.int i2) := Option.some.inj ei2
  obtain ⟨i3, ei3⟩ := isL_v g8
  obtain rfl : w3 = (.long i3) := Option.some.inj ei3
  obtain ⟨n, o, h1, h2, h3, _, L, rfl, ⟨rfl, N⟩, hq⟩ := own_r0 l s _ hw tables_1 i0 i1 i2 i3 s.heap s.heap.size (Nat.le_refl _) p e ha hc hk s m _ below hf ((Spec.applies_iff_loose hf).mp happ).1 ⟨rfl, State.Warmed39.refl s, rfl⟩ trivial
  refine ⟨n, _, h1, h2, h3, hpost _ _ _ _ _ _ ⟨Cond.after_iff.mpr rfl, Cond.after_iff.mpr (eq_i res_at (Term.int_eval (1)) rfl), trivial⟩ ⟨hq.1, hq.2.1, (hq.2.2.sift fun y hy => Or.inr (N y hy)).mono (by decide) (by decide)⟩⟩
theorem main_1_1 : Claimed_1_1 := own_comes fun _ _ _ _ _ _ h hF => ⟨h.1, hF⟩
theorem main_1_2 : Claimed_1_2 := own_comes fun _ _ _ _ _ _ h hF => ⟨h.2.1, hF⟩
end Jvm.Pilot.@@N@@
namespace Jvm.Pilot.@@N@@
open Jvm Jvm.ClassFile Sem Op Lib Jvm.Free Jvm.Stand Jvm.Pilot.@@N@@.Jvm.D
/-! MADE BY PROGRAM (witnessworld.py) out of the Statement's table words and the real class files: 15 classes; the members and pool entries that the words name. The judged class is class 1, her method 1. -/
namespace start1
open Jvm.ClassFile
def u (s : String) : CpInfo := .utf8 (stringToUtf16 s)
/-- a pool by its gaps: so many unusable entries, then the entry; so many at the end -/
def gap : Nat → List CpInfo → List CpInfo
  | 0, r => r
  | n + 1, r => .unusable :: gap n r
def poolList (es : List (Nat × CpInfo)) (last : Nat) : List CpInfo := es.foldr (fun e r => gap e.1 (e.2 :: r)) (gap last [])
def pool (es : List (Nat × CpInfo)) (last : Nat) : Array CpInfo := ⟨poolList es last⟩
def fileOf (pool : Array CpInfo) (this : Nat) (attrs : Array Attribute := #[]) (ms : Array MethodInfo := #[]) (fl : Nat := 33) (sup : Nat := 0) (ifs : Array Nat := #[]) (fds : Array FieldInfo := #[]) : ClassFile where
  minorVersion := 0
  majorVersion := 65
  constantPool := pool
  accessFlags := fl
  thisClass := this
  superClass := sup
  interfaces := ifs
  fields := fds
  methods := ms
  attributes := attrs
def plain (name : String) (sup : Option ClassId) : Class where
  name := name
  kind := .ordinary
  loader := none
  accessFlags := 33
  super := sup
  interfaces := #[]
  cf := none
  fields := #[]
  methods := #[]
  instanceTypes := #[]
  staticTypes := #[]
  resolved := #[]
  callSites := []
  init := .initialized
  statics := none
  mirror := none

def pool0 : Array CpInfo := pool [(5, u "<init>"), (0, u "()V"), (1, .class_ 10), (1, u "java/lang/Object")] 113

def k0c0 : Code := { maxStack := 0, maxLocals := 1, code := object_method_1_code, exceptionTable := #[], attributes := #[] }
def k0m0 : Method := { name := "<init>", desc := "()V", sig := { parameters := [], returnType := none }, accessFlags := 1, code := some k0c0 }
/-- java/lang/Object -/
def k0 : Class := { plain "java/lang/Object" none with
  accessFlags := 33
  interfaces := #[]
  cf := some (fileOf pool0 8 #[] #[{ accessFlags := 1, nameIndex := 5, descriptorIndex := 6, attributes := #[] }] 33 0 #[] #[])
  fields := #[]
  methods := #[k0m0]
  instanceTypes := #[]
  staticTypes := #[]
  resolved := Array.replicate 124 none
  statics := none }

def pool1 : Array CpInfo := pool [(2, .class_ 4), (1, u "java/lang/Object"), (0, u "<init>"), (0, u "()V"), (0, .class_ 8), (0, u "com/example/fairlead/fairlead/policy/CountWindow"), (0, .methodref 7 10), (0, .nameAndType 5 11), (0, u "(I)V"), (0, .methodref 13 14), (0, .class_ 15), (0, .nameAndType 16 17), (0, u "com/example/fairlead/fairlead/policy/CountWindowRecordPinLaw"), (0, u "bit"), (0, u "(II)Z"), (0, .methodref 7 19), (0, .nameAndType 20 21), (0, u "record"), (0, u "(JZZ)V"), (0, .methodref 7 23), (0, .nameAndType 24 25), (0, u "counts"), (0, u "(J)Lcom/example/fairlead/fairlead/model/BreakerCounts;"), (0, .methodref 27 28), (0, .class_ 29), (0, .nameAndType 30 31), (0, u "java/lang/Math"), (0, u "min"), (0, u "(II)I"), (0, .methodref 13 33), (0, .nameAndType 34 35), (0, u "held"), (0, u "(IIIII)J"), (0, .methodref 37 38), (0, .class_ 39), (0, .nameAndType 40 41), (0, u "com/example/fairlead/fairlead/model/BreakerCounts"), (0, u "calls"), (0, u "()J"), (0, .methodref 37 43), (0, .nameAndType 44 41), (0, u "failures"), (0, .methodref 37 46), (0, .nameAndType 47 41), (0, u "slowCalls"), (2, u "law"), (0, u "(IIIJ)Z")] 3

def k1m0 : Method := { name := "<init>", desc := "()V", sig := { parameters := [], returnType := none }, accessFlags := 1, code := none }
def k1c1 : Code := { maxStack := 7, maxLocals := 15, code := code, exceptionTable := #[], attributes := #[] }
def k1m1 : Method := { name := "law", desc := "(IIIJ)Z", sig := { parameters := [.int, .int, .int, .long], returnType := some .boolean }, accessFlags := 9, code := some k1c1 }
def k1c2 : Code := { maxStack := 2, maxLocals := 2, code := method_3_code, exceptionTable := #[], attributes := #[] }
def k1m2 : Method := { name := "bit", desc := "(II)Z", sig := { parameters := [.int, .int], returnType := some .boolean }, accessFlags := 10, code := some k1c2 }
def k1c3 : Code := { maxStack := 2, maxLocals := 5, code := method_4_code, exceptionTable := #[], attributes := #[] }
def k1m3 : Method := { name := "held", desc := "(IIIII)J", sig := { parameters := [.int, .int, .int, .int, .int], returnType := some .long }, accessFlags := 10, code := some k1c3 }
/-- com/example/fairlead/fairlead/policy/CountWindowRecordPinLaw -/
def k1 : Class := { plain "com/example/fairlead/fairlead/policy/CountWindowRecordPinLaw" (some 0) with
  accessFlags := 49
  interfaces := #[]
  cf := some (fileOf pool1 13 #[] #[{ accessFlags := 1, nameIndex := 5, descriptorIndex := 6, attributes := #[] }, { accessFlags := 9, nameIndex := 50, descriptorIndex := 51, attributes := #[] }, { accessFlags := 10, nameIndex := 16, descriptorIndex := 17, attributes := #[] }, { accessFlags := 10, nameIndex := 34, descriptorIndex := 35, attributes := #[] }] 49 2 #[] #[])
  fields := #[]
  methods := #[k1m0, k1m1, k1m2, k1m3]
  instanceTypes := #[]
  staticTypes := #[]
  resolved := Array.replicate 55 none
  statics := none }

def pool2 : Array CpInfo := pool [(1, .class_ 2), (0, u "com/example/fairlead/fairlead/policy/Window"), (0, .class_ 4), (0, u "java/lang/Object")] 6

/-- com/example/fairlead/fairlead/policy/Window -/
def k2 : Class := { plain "com/example/fairlead/fairlead/policy/Window" (some 0) with
  accessFlags := 1536
  interfaces := #[]
  cf := some (fileOf pool2 1 #[] #[] 1536 3 #[] #[])
  fields := #[]
  methods := #[]
  instanceTypes := #[]
  staticTypes := #[]
  resolved := Array.replicate 11 none
  statics := none }

def pool3 : Array CpInfo := pool [(1, .methodref 2 3), (0, .class_ 4), (0, .nameAndType 5 6), (0, u "java/lang/Object"), (0, u "<init>"), (0, u "()V"), (0, .fieldref 8 9), (0, .class_ 10), (0, .nameAndType 11 12), (0, u "com/example/fairlead/fairlead/policy/CountWindow"), (0, u "failed"), (0, u "[Z"), (0, .fieldref 8 14), (0, .nameAndType 15 12), (0, u "slow"), (0, .fieldref 8 17), (0, .nameAndType 18 19), (0, u "calls"), (0, u "I"), (0, .fieldref 8 21), (0, .nameAndType 22 19), (0, u "failures"), (0, .fieldref 8 24), (0, .nameAndType 25 19), (0, u "next"), (0, .fieldref 8 27), (0, .nameAndType 28 19), (0, u "slowCalls"), (0, .class_ 30), (0, u "com/example/fairlead/fairlead/model/BreakerCounts"), (0, .methodref 29 32), (0, .nameAndType 5 33), (0, u "(JJJ)V"), (0, .class_ 35), (0, u "com/example/fairlead/fairlead/policy/Window"), (0, u "(I)V"), (2, u "record"), (0, u "(JZZ)V"), (1, u "counts"), (0, u "(J)Lcom/example/fairlead/fairlead/model/BreakerCounts;")] 2

def k3c0 : Code := { maxStack := 2, maxLocals := 2, code := prog_24_method_1_code, exceptionTable := #[], attributes := #[] }
def k3m0 : Method := { name := "<init>", desc := "(I)V", sig := { parameters := [.int], returnType := none }, accessFlags := 0, code := some k3c0 }
def k3c1 : Code := { maxStack := 4, maxLocals := 5, code := prog_24_method_2_code, exceptionTable := #[], attributes := #[] }
def k3m1 : Method := { name := "record", desc := "(JZZ)V", sig := { parameters := [.long, .boolean, .boolean], returnType := none }, accessFlags := 1, code := some k3c1 }
def k3c2 : Code := { maxStack := 8, maxLocals := 3, code := prog_24_method_3_code, exceptionTable := #[], attributes := #[] }
def k3m2 : Method := { name := "counts", desc := "(J)Lcom/example/fairlead/fairlead/model/BreakerCounts;", sig := { parameters := [.long], returnType := some (.object "com/example/fairlead/fairlead/model/BreakerCounts") }, accessFlags := 1, code := some k3c2 }
/-- com/example/fairlead/fairlead/policy/CountWindow -/
def k3 : Class := { plain "com/example/fairlead/fairlead/policy/CountWindow" (some 0) with
  accessFlags := 32
  interfaces := #[2]
  cf := some (fileOf pool3 8 #[] #[{ accessFlags := 0, nameIndex := 5, descriptorIndex := 36, attributes := #[] }, { accessFlags := 1, nameIndex := 39, descriptorIndex := 40, attributes := #[] }, { accessFlags := 1, nameIndex := 42, descriptorIndex := 43, attributes := #[] }] 32 2 #[34] #[{ accessFlags := 18, nameIndex := 11, descriptorIndex := 12, attributes := #[] }, { accessFlags := 18, nameIndex := 15, descriptorIndex := 12, attributes := #[] }, { accessFlags := 2, nameIndex := 25, descriptorIndex := 19, attributes := #[] }, { accessFlags := 2, nameIndex := 18, descriptorIndex := 19, attributes := #[] }, { accessFlags := 2, nameIndex := 22, descriptorIndex := 19, attributes := #[] }, { accessFlags := 2, nameIndex := 28, descriptorIndex := 19, attributes := #[] }])
  fields := #[{ name := "failed", type := (.array .boolean), accessFlags := 18, slot := 0, constantValue := 0 }, { name := "slow", type := (.array .boolean), accessFlags := 18, slot := 1, constantValue := 0 }, { name := "next", type := .int, accessFlags := 2, slot := 2, constantValue := 0 }, { name := "calls", type := .int, accessFlags := 2, slot := 3, constantValue := 0 }, { name := "failures", type := .int, accessFlags := 2, slot := 4, constantValue := 0 }, { name := "slowCalls", type := .int, accessFlags := 2, slot := 5, constantValue := 0 }]
  methods := #[k3m0, k3m1, k3m2]
  instanceTypes := #[(.array .boolean), (.array .boolean), .int, .int, .int, .int]
  staticTypes := #[]
  resolved := Array.replicate 46 none
  statics := none }

def pool4 : Array CpInfo := pool [(1, .methodref 2 3), (0, .class_ 4), (0, .nameAndType 5 6), (0, u "java/lang/Object"), (0, u "<init>"), (0, u "()V"), (0, .class_ 8), (0, u "java/lang/Record")] 13

def k4c0 : Code := { maxStack := 1, maxLocals := 1, code := jdk_30_method_1_code, exceptionTable := #[], attributes := #[] }
def k4m0 : Method := { name := "<init>", desc := "()V", sig := { parameters := [], returnType := none }, accessFlags := 4, code := some k4c0 }
/-- java/lang/Record -/
def k4 : Class := { plain "java/lang/Record" (some 0) with
  accessFlags := 1057
  interfaces := #[]
  cf := some (fileOf pool4 7 #[] #[{ accessFlags := 4, nameIndex := 5, descriptorIndex := 6, attributes := #[] }] 1057 2 #[] #[])
  fields := #[]
  methods := #[k4m0]
  instanceTypes := #[]
  staticTypes := #[]
  resolved := Array.replicate 22 none
  statics := none }

def pool5 : Array CpInfo := pool [(1, .methodref 2 3), (0, .class_ 4), (0, .nameAndType 5 6), (0, u "java/lang/Record"), (0, u "<init>"), (0, u "()V"), (0, .fieldref 8 9), (0, .class_ 10), (0, .nameAndType 11 12), (0, u "com/example/fairlead/fairlead/model/BreakerCounts"), (0, u "calls"), (0, u "J"), (0, .fieldref 8 14), (0, .nameAndType 15 12), (0, u "failures"), (0, .fieldref 8 17), (0, .nameAndType 18 12), (0, u "slowCalls"), (12, u "(JJJ)V"), (6, u "()J")] 22

def k5c0 : Code := { maxStack := 3, maxLocals := 7, code := prog_2_method_1_code, exceptionTable := #[], attributes := #[] }
def k5m0 : Method := { name := "<init>", desc := "(JJJ)V", sig := { parameters := [.long, .long, .long], returnType := none }, accessFlags := 1, code := some k5c0 }
def k5c1 : Code := { maxStack := 2, maxLocals := 1, code := prog_2_method_5_code, exceptionTable := #[], attributes := #[] }
def k5m1 : Method := { name := "calls", desc := "()J", sig := { parameters := [], returnType := some .long }, accessFlags := 1, code := some k5c1 }
def k5c2 : Code := { maxStack := 2, maxLocals := 1, code := prog_2_method_6_code, exceptionTable := #[], attributes := #[] }
def k5m2 : Method := { name := "failures", desc := "()J", sig := { parameters := [], returnType := some .long }, accessFlags := 1, code := some k5c2 }
def k5c3 : Code := { maxStack := 2, maxLocals := 1, code := prog_2_method_7_code, exceptionTable := #[], attributes := #[] }
def k5m3 : Method := { name := "slowCalls", desc := "()J", sig := { parameters := [], returnType := some .long }, accessFlags := 1, code := some k5c3 }
/-- com/example/fairlead/fairlead/model/BreakerCounts -/
def k5 : Class := { plain "com/example/fairlead/fairlead/model/BreakerCounts" (some 4) with
  accessFlags := 49
  interfaces := #[]
  cf := some (fileOf pool5 8 #[] #[{ accessFlags := 1, nameIndex := 5, descriptorIndex := 31, attributes := #[] }, { accessFlags := 1, nameIndex := 11, descriptorIndex := 38, attributes := #[] }, { accessFlags := 1, nameIndex := 15, descriptorIndex := 38, attributes := #[] }, { accessFlags := 1, nameIndex := 18, descriptorIndex := 38, attributes := #[] }] 49 2 #[] #[{ accessFlags := 18, nameIndex := 11, descriptorIndex := 12, attributes := #[] }, { accessFlags := 18, nameIndex := 15, descriptorIndex := 12, attributes := #[] }, { accessFlags := 18, nameIndex := 18, descriptorIndex := 12, attributes := #[] }])
  fields := #[{ name := "calls", type := .long, accessFlags := 18, slot := 0, constantValue := 0 }, { name := "failures", type := .long, accessFlags := 18, slot := 1, constantValue := 0 }, { name := "slowCalls", type := .long, accessFlags := 18, slot := 2, constantValue := 0 }]
  methods := #[k5m0, k5m1, k5m2, k5m3]
  instanceTypes := #[.long, .long, .long]
  staticTypes := #[]
  resolved := Array.replicate 61 none
  statics := none }

def pool6 : Array CpInfo := pool [(1, .class_ 2), (0, u "java/lang/Math"), (1, .class_ 6), (1, u "java/lang/Object"), (0, u "<init>"), (0, u "()V"), (89, .class_ 100), (1, u "java/lang/Math$RandomNumberGeneratorHolder"), (71, u "negativeZeroFloatBits"), (0, u "J"), (2, u "negativeZeroDoubleBits"), (24, u "min"), (43, u "$assertionsDisabled"), (0, u "Z"), (88, u "(II)I"), (2, u "twoToTheDoubleScaleDown"), (0, u "D"), (4, u "twoToTheDoubleScaleUp"), (9, u "E"), (3, u "PI"), (2, u "TAU"), (2, u "DEGREES_TO_RADIANS"), (0, u "RADIANS_TO_DEGREES")] 94

def k6m0 : Method := { name := "<init>", desc := "()V", sig := { parameters := [], returnType := none }, accessFlags := 2, code := none }
def k6c1 : Code := { maxStack := 2, maxLocals := 2, code := jdk_29_method_69_code, exceptionTable := #[], attributes := #[] }
def k6m1 : Method := { name := "min", desc := "(II)I", sig := { parameters := [.int, .int], returnType := some .int }, accessFlags := 9, code := some k6c1 }
/-- java/lang/Math -/
def k6 : Class := { plain "java/lang/Math" (some 0) with
  accessFlags := 49
  interfaces := #[]
  cf := some (fileOf pool6 1 #[.nestMembers #[98]] #[{ accessFlags := 2, nameIndex := 7, descriptorIndex := 8, attributes := #[] }, { accessFlags := 9, nameIndex := 201, descriptorIndex := 335, attributes := #[] }] 49 4 #[] #[{ accessFlags := 25, nameIndex := 354, descriptorIndex := 339, attributes := #[] }, { accessFlags := 25, nameIndex := 358, descriptorIndex := 339, attributes := #[] }, { accessFlags := 25, nameIndex := 361, descriptorIndex := 339, attributes := #[] }, { accessFlags := 26, nameIndex := 364, descriptorIndex := 339, attributes := #[] }, { accessFlags := 26, nameIndex := 365, descriptorIndex := 339, attributes := #[] }, { accessFlags := 26, nameIndex := 172, descriptorIndex := 173, attributes := #[] }, { accessFlags := 26, nameIndex := 176, descriptorIndex := 173, attributes := #[] }, { accessFlags := 8, nameIndex := 344, descriptorIndex := 339, attributes := #[] }, { accessFlags := 8, nameIndex := 338, descriptorIndex := 339, attributes := #[] }, { accessFlags := 4120, nameIndex := 245, descriptorIndex := 246, attributes := #[] }])
  fields := #[{ name := "E", type := .double, accessFlags := 25, slot := 0, constantValue := 0 }, { name := "PI", type := .double, accessFlags := 25, slot := 1, constantValue := 0 }, { name := "TAU", type := .double, accessFlags := 25, slot := 2, constantValue := 0 }, { name := "DEGREES_TO_RADIANS", type := .double, accessFlags := 26, slot := 3, constantValue := 0 }, { name := "RADIANS_TO_DEGREES", type := .double, accessFlags := 26, slot := 4, constantValue := 0 }, { name := "negativeZeroFloatBits", type := .long, accessFlags := 26, slot := 5, constantValue := 0 }, { name := "negativeZeroDoubleBits", type := .long, accessFlags := 26, slot := 6, constantValue := 0 }, { name := "twoToTheDoubleScaleUp", type := .double, accessFlags := 8, slot := 7, constantValue := 0 }, { name := "twoToTheDoubleScaleDown", type := .double, accessFlags := 8, slot := 8, constantValue := 0 }, { name := "$assertionsDisabled", type := .boolean, accessFlags := 4120, slot := 9, constantValue := 0 }]
  methods := #[k6m0, k6m1]
  instanceTypes := #[]
  staticTypes := #[.double, .double, .double, .double, .double, .long, .long, .double, .double, .boolean]
  resolved := Array.replicate 460 none
  statics := none }

def pool7 : Array CpInfo := pool [(1, u "java/lang/Cloneable"), (0, .class_ 1), (0, u "java/lang/Object"), (0, .class_ 3)] 3

/-- java/lang/Cloneable -/
def k7 : Class := { plain "java/lang/Cloneable" (some 0) with
  accessFlags := 1537
  interfaces := #[]
  cf := some (fileOf pool7 2 #[] #[] 1537 4 #[] #[])
  fields := #[]
  methods := #[]
  instanceTypes := #[]
  staticTypes := #[]
  resolved := Array.replicate 8 none
  statics := none }

def pool8 : Array CpInfo := pool [(1, u "java/io/Serializable"), (0, .class_ 1), (0, u "java/lang/Object"), (0, .class_ 3)] 3

/-- java/io/Serializable -/
def k8 : Class := { plain "java/io/Serializable" (some 0) with
  accessFlags := 1537
  interfaces := #[]
  cf := some (fileOf pool8 2 #[] #[] 1537 4 #[] #[])
  fields := #[]
  methods := #[]
  instanceTypes := #[]
  staticTypes := #[]
  resolved := Array.replicate 8 none
  statics := none }

/-- the primitive boolean -/
def k9 : Class := { plain "boolean" none with kind := .primitive 'Z', accessFlags := 0x411 }
/-- [Z -/
def k10 : Class := { plain "[Z" (some 0) with kind := .array 9 .boolean, interfaces := #[7, 8], accessFlags := 1041 }

/-- the primitive byte -/
def k11 : Class := { plain "byte" none with kind := .primitive 'B', accessFlags := 0x411 }
/-- [B -/
def k12 : Class := { plain "[B" (some 0) with kind := .array 11 .byte, interfaces := #[7, 8], accessFlags := 1041 }

/-- the primitive int -/
def k13 : Class := { plain "int" none with kind := .primitive 'I', accessFlags := 0x411 }
/-- [I -/
def k14 : Class := { plain "[I" (some 0) with kind := .array 13 .int, interfaces := #[7, 8], accessFlags := 1041 }

def heap : Heap := #[]
def classes : Array Class := #[k0, k1, k2, k3, k4, k5, k6, k7, k8, k9, k10, k11, k12, k13, k14]
def interned : List (Array UInt16 × Addr) := []
def slotsUsed : Nat := 0
def theMethod : MethodId := ⟨1, 1⟩
def args0 : Array Value := #[.int 5, .int 5, .int 5, .long 5]
def aboutOver (below : List Frame) : State where
  vm := { classes := classes, interned := interned.toArray }
  heap := heap
  slotsUsed := slotsUsed
  threads := #[{ frames := .invoking theMethod args0 :: below }]
def below0 : List Frame := [.native { method := ⟨0, 0⟩, args := #[] }]
def about1 : State := aboutOver below0
def p0 : Program := .bare "" "" ""
def e0 : Env := launch0.env 0 0 0
theorem w_frames : about1.frames = Frame.invoking theMethod args0 :: below0 := rfl
set_option maxRecDepth 65536 in
theorem w_args : argsFit about1.vm theMethod args0 = true := by decide +kernel
set_option maxRecDepth 65536 in
theorem w_heap : heapFits about1 = true := by decide +kernel
set_option maxRecDepth 65536 in
theorem w_runnable : about1.curStatus? = some .runnable := by decide +kernel
set_option maxRecDepth 65536 in
theorem w_alone : about1.alone = true := by decide +kernel
set_option maxRecDepth 65536 in
theorem w_named : about1.methodNamed? x = some theMethod := by decide +kernel
set_option maxRecDepth 65536 in
theorem w_hears : about1.hears theMethod below0 = true := by decide +kernel
set_option maxRecDepth 65536 in
theorem w_ripe : about1.ripe theMethod args0 below0 = true := by decide +kernel
theorem w_running : about1.status = .running := rfl
set_option maxRecDepth 65536 in
theorem w_room : about1.hasRoom e0.platform room_1 = true :=
  launch0.hasRoom_least _ room_1 (by decide +kernel) (by decide +kernel) (by decide +kernel) (by decide +kernel) (by decide +kernel) (by decide +kernel)
theorem allAtoms_all (ts : List Jvm.Cond) (a : Array Jvm.Value) (st : Jvm.State) : (allAtoms ts).before a st = ts.all (fun c => c.before a st) := by
  induction ts with
  | nil => rfl
  | cons c t ih =>
    show (Jvm.Cond.and c (allAtoms t)).before a st = _
    rw [Jvm.Cond.before_and, ih, List.all_cons]
def words1 : List Jvm.Cond := Jvm.Cond.code x code maxLocals ret :: tables_1
/-- a 'code' word, met by the world's own term for the bytes: nothing is compared byte by byte -/
theorem code_word {y : MethodName} {bytes : ByteArray} {mx : Nat} {rt : Option FieldType} {a : Array Value} {s : State} {m : MethodId} {meth : Method} {c : Code} (h1 : s.methodNamed? y = some m) (h2 : s.vm.method? m = some meth) (h3 : meth.code = some c) (h4 : c.code = bytes)
    (h5 : (c.maxLocals == mx && c.exceptionTable.isEmpty && decide (c.maxStack ≤ mostOperands) && decide (meth.sig.returnType = rt) && !meth.locks && decide (parseMethodDescriptor y.desc = some meth.sig)) = true) : (Jvm.Cond.code y bytes mx rt).before a s = true := by
  simp only [Bool.and_eq_true, beq_iff_eq, Bool.not_eq_true', decide_eq_true_eq] at h5
  obtain ⟨⟨⟨⟨⟨g1, g2⟩, g3⟩, g4⟩, g5⟩, g6⟩ := h5
  simp [Cond.before, Cond.holds, Cond.value, h1, h2, h3, h4, g1, g2, g3, g4, g5, g6]
def isCode : Jvm.Cond → Bool
  | .code _ _ _ _ => true
  | _ => false
theorem all_split {L : List Jvm.Cond} {P : Jvm.Cond → Bool} (h1 : L.all (fun c => isCode c || P c) = true) (h2 : ∀ c ∈ L.filter isCode, P c = true) : L.all P = true := by
  refine List.all_eq_true.mpr fun c hc => ?_
  have h := List.all_eq_true.mp h1 c hc
  rcases Bool.eq_false_or_eq_true (isCode c) with hi | hi
  · exact h2 c (List.mem_filter.mpr ⟨hc, hi⟩)
  · simpa [hi] using h
set_option maxRecDepth 65536 in
theorem w_c0 : (Jvm.Cond.code x code maxLocals ret).before args0 about1 = true := code_word (m := ⟨1, 1⟩) (meth := k1m1) (c := k1c1) (by decide +kernel) rfl rfl rfl (by decide +kernel)
set_option maxRecDepth 65536 in
theorem w_c1 : (Jvm.Cond.code ({ cls := "com/example/fairlead/fairlead/policy/CountWindow", name := "<init>", desc := "(I)V" } : Jvm.MethodName) prog_24_method_1_code (2 : Nat) (Option.none : Option Jvm.ClassFile.FieldType)).before args0 about1 = true := code_word (m := ⟨3, 0⟩) (meth := k3m0) (c := k3c0) (by decide +kernel) rfl rfl rfl (by decide +kernel)
set_option maxRecDepth 65536 in
theorem w_c2 : (Jvm.Cond.code ({ cls := "java/lang/Object", name := "<init>", desc := "()V" } : Jvm.MethodName) object_method_1_code (1 : Nat) (Option.none : Option Jvm.ClassFile.FieldType)).before args0 about1 = true := code_word (m := ⟨0, 0⟩) (meth := k0m0) (c := k0c0) (by decide +kernel) rfl rfl rfl (by decide +kernel)
set_option maxRecDepth 65536 in
theorem w_c3 : (Jvm.Cond.code ({ cls := "com/example/fairlead/fairlead/policy/CountWindowRecordPinLaw", name := "bit", desc := "(II)Z" } : Jvm.MethodName) method_3_code (2 : Nat) (Option.some Jvm.ClassFile.FieldType.boolean)).before args0 about1 = true := code_word (m := ⟨1, 2⟩) (meth := k1m2) (c := k1c2) (by decide +kernel) rfl rfl rfl (by decide +kernel)
set_option maxRecDepth 65536 in
theorem w_c4 : (Jvm.Cond.code ({ cls := "com/example/fairlead/fairlead/policy/CountWindow", name := "record", desc := "(JZZ)V" } : Jvm.MethodName) prog_24_method_2_code (5 : Nat) (Option.none : Option Jvm.ClassFile.FieldType)).before args0 about1 = true := code_word (m := ⟨3, 1⟩) (meth := k3m1) (c := k3c1) (by decide +kernel) rfl rfl rfl (by decide +kernel)
set_option maxRecDepth 65536 in
theorem w_c5 : (Jvm.Cond.code ({ cls := "com/example/fairlead/fairlead/policy/CountWindow", name := "counts", desc := "(J)Lcom/example/fairlead/fairlead/model/BreakerCounts;" } : Jvm.MethodName) prog_24_method_3_code (3 : Nat) (Option.some (Jvm.ClassFile.FieldType.object "com/example/fairlead/fairlead/model/BreakerCounts"))).before args0 about1 = true := code_word (m := ⟨3, 2⟩) (meth := k3m2) (c := k3c2) (by decide +kernel) rfl rfl rfl (by decide +kernel)
set_option maxRecDepth 65536 in
theorem w_c6 : (Jvm.Cond.code ({ cls := "com/example/fairlead/fairlead/model/BreakerCounts", name := "<init>", desc := "(JJJ)V" } : Jvm.MethodName) prog_2_method_1_code (7 : Nat) (Option.none : Option Jvm.ClassFile.FieldType)).before args0 about1 = true := code_word (m := ⟨5, 0⟩) (meth := k5m0) (c := k5c0) (by decide +kernel) rfl rfl rfl (by decide +kernel)
set_option maxRecDepth 65536 in
theorem w_c7 : (Jvm.Cond.code ({ cls := "java/lang/Record", name := "<init>", desc := "()V" } : Jvm.MethodName) jdk_30_method_1_code (1 : Nat) (Option.none : Option Jvm.ClassFile.FieldType)).before args0 about1 = true := code_word (m := ⟨4, 0⟩) (meth := k4m0) (c := k4c0) (by decide +kernel) rfl rfl rfl (by decide +kernel)
set_option maxRecDepth 65536 in
theorem w_c8 : (Jvm.Cond.code ({ cls := "java/lang/Math", name := "min", desc := "(II)I" } : Jvm.MethodName) jdk_29_method_69_code (2 : Nat) (Option.some Jvm.ClassFile.FieldType.int)).before args0 about1 = true := code_word (m := ⟨6, 1⟩) (meth := k6m1) (c := k6c1) (by decide +kernel) rfl rfl rfl (by decide +kernel)
set_option maxRecDepth 65536 in
theorem w_c9 : (Jvm.Cond.code ({ cls := "com/example/fairlead/fairlead/policy/CountWindowRecordPinLaw", name := "held", desc := "(IIIII)J" } : Jvm.MethodName) method_4_code (5 : Nat) (Option.some Jvm.ClassFile.FieldType.long)).before args0 about1 = true := code_word (m := ⟨1, 3⟩) (meth := k1m3) (c := k1c3) (by decide +kernel) rfl rfl rfl (by decide +kernel)
set_option maxRecDepth 65536 in
theorem w_c10 : (Jvm.Cond.code ({ cls := "com/example/fairlead/fairlead/model/BreakerCounts", name := "calls", desc := "()J" } : Jvm.MethodName) prog_2_method_5_code (1 : Nat) (Option.some Jvm.ClassFile.FieldType.long)).before args0 about1 = true := code_word (m := ⟨5, 1⟩) (meth := k5m1) (c := k5c1) (by decide +kernel) rfl rfl rfl (by decide +kernel)
set_option maxRecDepth 65536 in
theorem w_c11 : (Jvm.Cond.code ({ cls := "com/example/fairlead/fairlead/model/BreakerCounts", name := "failures", desc := "()J" } : Jvm.MethodName) prog_2_method_6_code (1 : Nat) (Option.some Jvm.ClassFile.FieldType.long)).before args0 about1 = true := code_word (m := ⟨5, 2⟩) (meth := k5m2) (c := k5c2) (by decide +kernel) rfl rfl rfl (by decide +kernel)
set_option maxRecDepth 65536 in
theorem w_c12 : (Jvm.Cond.code ({ cls := "com/example/fairlead/fairlead/model/BreakerCounts", name := "slowCalls", desc := "()J" } : Jvm.MethodName) prog_2_method_7_code (1 : Nat) (Option.some Jvm.ClassFile.FieldType.long)).before args0 about1 = true := code_word (m := ⟨5, 3⟩) (meth := k5m3) (c := k5c3) (by decide +kernel) rfl rfl rfl (by decide +kernel)
def codes1 : List Jvm.Cond := [Jvm.Cond.code x code maxLocals ret, Jvm.Cond.code ({ cls := "com/example/fairlead/fairlead/policy/CountWindow", name := "<init>", desc := "(I)V" } : Jvm.MethodName) prog_24_method_1_code (2 : Nat) (Option.none : Option Jvm.ClassFile.FieldType), Jvm.Cond.code ({ cls := "java/lang/Object", name := "<init>", desc := "()V" } : Jvm.MethodName) object_method_1_code (1 : Nat) (Option.none : Option Jvm.ClassFile.FieldType), Jvm.Cond.code ({ cls := "com/example/fairlead/fairlead/policy/CountWindowRecordPinLaw", name := "bit", desc := "(II)Z" } : Jvm.MethodName) method_3_code (2 : Nat) (Option.some Jvm.ClassFile.FieldType.boolean), Jvm.Cond.code ({ cls := "com/example/fairlead/fairlead/policy/CountWindow", name := "record", desc := "(JZZ)V" } : Jvm.MethodName) prog_24_method_2_code (5 : Nat) (Option.none : Option Jvm.ClassFile.FieldType), Jvm.Cond.code ({ cls := "com/example/fairlead/fairlead/policy/CountWindow", name := "counts", desc := "(J)Lcom/example/fairlead/fairlead/model/BreakerCounts;" } : Jvm.MethodName) prog_24_method_3_code (3 : Nat) (Option.some (Jvm.ClassFile.FieldType.object "com/example/fairlead/fairlead/model/BreakerCounts")), Jvm.Cond.code ({ cls := "com/example/fairlead/fairlead/model/BreakerCounts", name := "<init>", desc := "(JJJ)V" } : Jvm.MethodName) prog_2_method_1_code (7 : Nat) (Option.none : Option Jvm.ClassFile.FieldType), Jvm.Cond.code ({ cls := "java/lang/Record", name := "<init>", desc := "()V" } : Jvm.MethodName) jdk_30_method_1_code (1 : Nat) (Option.none : Option Jvm.ClassFile.FieldType), Jvm.Cond.code ({ cls := "java/lang/Math", name := "min", desc := "(II)I" } : Jvm.MethodName) jdk_29_method_69_code (2 : Nat) (Option.some Jvm.ClassFile.FieldType.int), Jvm.Cond.code ({ cls := "com/example/fairlead/fairlead/policy/CountWindowRecordPinLaw", name := "held", desc := "(IIIII)J" } : Jvm.MethodName) method_4_code (5 : Nat) (Option.some Jvm.ClassFile.FieldType.long), Jvm.Cond.code ({ cls := "com/example/fairlead/fairlead/model/BreakerCounts", name := "calls", desc := "()J" } : Jvm.MethodName) prog_2_method_5_code (1 : Nat) (Option.some Jvm.ClassFile.FieldType.long), Jvm.Cond.code ({ cls := "com/example/fairlead/fairlead/model/BreakerCounts", name := "failures", desc := "()J" } : Jvm.MethodName) prog_2_method_6_code (1 : Nat) (Option.some Jvm.ClassFile.FieldType.long), Jvm.Cond.code ({ cls := "com/example/fairlead/fairlead/model/BreakerCounts", name := "slowCalls", desc := "()J" } : Jvm.MethodName) prog_2_method_7_code (1 : Nat) (Option.some Jvm.ClassFile.FieldType.long)]
set_option maxRecDepth 65536 in
theorem codes_eq : words1.filter isCode = codes1 := rfl
theorem w_codes : ∀ c ∈ words1.filter isCode, c.before args0 about1 = true := by
  rw [codes_eq]
  intro c hc
  simp only [codes1, List.mem_cons, List.not_mem_nil, or_false] at hc
  rcases hc with rfl | rfl | rfl | rfl | rfl | rfl | rfl | rfl | rfl | rfl | rfl | rfl | rfl
  · exact w_c0
  · exact w_c1
  · exact w_c2
  · exact w_c3
  · exact w_c4
  · exact w_c5
  · exact w_c6
  · exact w_c7
  · exact w_c8
  · exact w_c9
  · exact w_c10
  · exact w_c11
  · exact w_c12
set_option maxRecDepth 65536 in
theorem w_t1 : (words1.take 24).all (fun c => isCode c || c.before args0 about1) = true := by decide +kernel
set_option maxRecDepth 65536 in
theorem w_t2 : ((words1.drop 24).take 24).all (fun c => isCode c || c.before args0 about1) = true := by decide +kernel
set_option maxRecDepth 65536 in
theorem w_t3 : (((words1.drop 24).drop 24).take 24).all (fun c => isCode c || c.before args0 about1) = true := by decide +kernel
set_option maxRecDepth 65536 in
theorem w_t4 : (((words1.drop 24).drop 24).drop 24).all (fun c => isCode c || c.before args0 about1) = true := by decide +kernel
theorem w_tables : (allAtoms (Jvm.Cond.code x code maxLocals ret :: tables_1)).before args0 about1 = true := by
  rw [allAtoms_all]
  show words1.all (fun c => c.before args0 about1) = true
  refine all_split ?_ w_codes
  rw [← List.take_append_drop 24 words1, List.all_append, w_t1, ← List.take_append_drop 24 (words1.drop 24), List.all_append, w_t2, ← List.take_append_drop 24 ((words1.drop 24).drop 24), List.all_append, w_t3, w_t4]
  rfl
set_option maxRecDepth 65536 in
theorem w_case : (Jvm.Cond.and given_1 narrow_1).before args0 about1 = true := by decide +kernel
theorem w_applies : (headSpec (Jvm.Cond.code x code maxLocals ret :: tables_1) room_1).applies x e0.platform about1 = true :=
  (Spec.applies_iff w_frames).mpr ⟨w_running, w_runnable, w_alone, w_named, w_hears, w_ripe, w_room, w_tables⟩
theorem atStart : AtStart classFile x code maxLocals ret World_1 tables_1 room_1 Calls_1 rest_1 Pre_1 launch0 p0 e0 about1 theMethod args0 below0 :=
  ⟨lists_1, trivial, launch0.admits_env _ _ _, launch0.least_env, fairChoices_fair.cas, fairChoices_fair.clock, w_frames, w_args, w_heap, w_applies, trivial, trivial, w_case⟩
end start1
theorem witness_1 : WitnessClaimed_1 := ⟨start1.p0, start1.e0, start1.about1, start1.theMethod, start1.args0, start1.below0, start1.atStart⟩
end Jvm.Pilot.@@N@@
