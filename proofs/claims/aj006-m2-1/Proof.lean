import JvmDerived
import JvmDerived.Pilot.@@N@@Statement
import JvmDerived.Pilot.@@N@@Code
set_option linter.unusedVariables false
set_option linter.unusedSimpArgs false
@@BLOCK:NumsL.lean.txt@@
namespace Jvm.Pilot.@@N@@
open Jvm Jvm.ClassFile Sem Op Lib Jvm.Free Jvm.Stand Jvm.LawKit Jvm.RoadKit Bundle Jvm.Pilot.@@N@@.Jvm.D

/-! the walk's own small kit: from the frame g over the state T the body comes to its end, with Φ -/
def own_Go (p : Program) (e : Env) (below : List Frame) (T : State) (g : JFrame) (Φ : Outcome → State → Prop) : Prop :=
  ∃ s₂ o, Steps p.tables e below (T.setTop g) s₂ ∧ s₂.status = .running ∧ Ended s₂ below o ∧ Φ o s₂
def own_Fin (s : State) (Q : Option Value → Heap → List Loc → Prop) (k j : Nat) (o : Outcome) (U' : State) : Prop :=
  ∃ v L, o = .returned v ∧ Q v U'.heap L ∧ FrameEnd s o U' L k j
theorem own_by {p : Program} {e : Env} {below : List Frame} {T T' : State} {g g' : JFrame} {Φ : Outcome → State → Prop}
    (h : ∀ t, Steps p.tables e below (T'.setTop g') t → Steps p.tables e below (T.setTop g) t) (k : own_Go p e below T' g' Φ) : own_Go p e below T g Φ := by
  obtain ⟨s₂, o, h1, h2⟩ := k
  exact ⟨s₂, o, h _ h1, h2⟩
theorem own_start {p : Program} {e : Env} {below : List Frame} {s T : State} {g g' : JFrame} {Q : Option Value → Heap → List Loc → Prop} {k j : Nat} (hg : g = g')
    (h : own_Go p e below T g' (own_Fin s Q k j)) : ∃ s₂ o, Steps p.tables e below (T.setTop g) s₂ ∧ s₂.status = .running ∧ Ended s₂ below o ∧ ∃ v L, o = .returned v ∧ Q v s₂.heap L ∧ FrameEnd s o s₂ L k j := by
  subst hg
  exact h
section OwnRet
variable {p : Program} {l : Launch} {e : Env} {R : Room} {s : State} {m : MethodId} {args : Array Value} {below : List Frame} {meth : Method} {c : Code} {T : State} {locs : List Loc} {cells slots : Nat} {Q : Option Value → Heap → List Loc → Prop} {k j pc : Nat} {Ls : Array Slot} {rest : List Value}
theorem own_retN {t : FieldType} (ht : t = .boolean ∨ t = .byte ∨ t = .char ∨ t = .short) (X : Stand p l e R s m args below meth c T locs cells slots) (hx : p.tables.exec = Jvm.exec) (hret : meth.sig.returnType = some t) (hlk : meth.locks = false) {z : Int32} (hd : decode c.code pc = .ok (.ireturn, 1))
    (hz : nar t z = z) (hk : cells ≤ k) (hj : slots ≤ j) (q : Q (some (.int z)) T.heap locs) : own_Go p e below T (mkF m pc Ls (.int z :: rest)) (own_Fin s Q k j) := by
  obtain ⟨fs, hr, hrun, hended, hW, hsame⟩ := X.leave (v := some (.int z)) (fun h => by rw [hret] at h; cases h)
  exact ⟨_, _, retN X hx hret ht hd (by rw [hz]; exact hr), hrun, hended, _, _, rfl, q, ⟨_, rfl⟩, hW, hsame.mono hk hj⟩
theorem own_retZ (X : Stand p l e R s m args below meth c T locs cells slots) (hx : p.tables.exec = Jvm.exec) (hret : meth.sig.returnType = some .boolean) (hlk : meth.locks = false) {z : Int32} (hd : decode c.code pc = .ok (.ireturn, 1))
    (hz : nar .boolean z = z) (hk : cells ≤ k) (hj : slots ≤ j) (q : Q (some (.int z)) T.heap locs) : own_Go p e below T (mkF m pc Ls (.int z :: rest)) (own_Fin s Q k j) := own_retN (Or.inl rfl) X hx hret hlk hd hz hk hj q
theorem own_retI (X : Stand p l e R s m args below meth c T locs cells slots) (hx : p.tables.exec = Jvm.exec) (hret : meth.sig.returnType = some .int) (hlk : meth.locks = false) {z : Int32} (hd : decode c.code pc = .ok (.ireturn, 1))
    (hk : cells ≤ k) (hj : slots ≤ j) (q : Q (some (.int z)) T.heap locs) : own_Go p e below T (mkF m pc Ls (.int z :: rest)) (own_Fin s Q k j) := by
  obtain ⟨fs, hr, hrun, hended, hW, hsame⟩ := X.leave (v := some (.int z)) (fun h => by rw [hret] at h; cases h)
  exact ⟨_, _, retOut X hx hret rfl (Or.inl ⟨rfl, Or.inl rfl, z, rfl⟩) hd hr, hrun, hended, _, _, rfl, q, ⟨_, rfl⟩, hW, hsame.mono hk hj⟩
theorem own_retJ (X : Stand p l e R s m args below meth c T locs cells slots) (hx : p.tables.exec = Jvm.exec) (hret : meth.sig.returnType = some .long) (hlk : meth.locks = false) {z : Int64} (hd : decode c.code pc = .ok (.lreturn, 1))
    (hk : cells ≤ k) (hj : slots ≤ j) (q : Q (some (.long z)) T.heap locs) : own_Go p e below T (mkF m pc Ls (.long z :: rest)) (own_Fin s Q k j) := by
  obtain ⟨fs, hr, hrun, hended, hW, hsame⟩ := X.leave (v := some (.long z)) (fun h => by rw [hret] at h; cases h)
  exact ⟨_, _, retOut X hx hret rfl (Or.inr (Or.inl ⟨rfl, rfl, z, rfl⟩)) hd hr, hrun, hended, _, _, rfl, q, ⟨_, rfl⟩, hW, hsame.mono hk hj⟩
theorem own_retA {t : FieldType} (X : Stand p l e R s m args below meth c T locs cells slots) (hx : p.tables.exec = Jvm.exec) (hret : meth.sig.returnType = some t) (hlk : meth.locks = false) {z : Value} (hd : decode c.code pc = .ok (.areturn, 1))
    (ht : t.isReference = true) (hz : z.isRef = true) (hn : narrow t z = z) (hk : cells ≤ k) (hj : slots ≤ j) (q : Q (some z) T.heap locs) : own_Go p e below T (mkF m pc Ls (z :: rest)) (own_Fin s Q k j) := by
  obtain ⟨fs, hr, hrun, hended, hW, hsame⟩ := X.leave (v := some z) (fun h => by rw [hret] at h; cases h)
  exact ⟨_, _, retOut X hx hret hn (Or.inr (Or.inr (Or.inr (Or.inr ⟨rfl, ht, hz⟩)))) hd hr, hrun, hended, _, _, rfl, q, ⟨_, rfl⟩, hW, hsame.mono hk hj⟩
theorem own_retV (X : Stand p l e R s m args below meth c T locs cells slots) (hx : p.tables.exec = Jvm.exec) (hret : meth.sig.returnType = none) (hlk : meth.locks = false) (hd : decode c.code pc = .ok (.return_, 1))
    (hk : cells ≤ k) (hj : slots ≤ j) (q : Q none T.heap locs) : own_Go p e below T (mkF m pc Ls []) (own_Fin s Q k j) := by
  obtain ⟨fs, hr, hrun, hended, hW, hsame⟩ := X.leave (v := none) (fun _ => rfl)
  exact ⟨_, _, X.returnOut hx hret hd hr, hrun, hended, _, _, rfl, q, ⟨_, rfl⟩, hW, hsame.mono hk hj⟩
theorem own_lrem_eq (x y : Int64) : x - x / y * y = x % y := Int64.toInt_inj.mp (by rw [Jvm.Kit.i64_rem, Int64.toInt_mod])
theorem own_lrem {g : JFrame} {target : State} (X : Stand p l e R s m args below meth c T locs cells slots) (hx : p.tables.exec = Jvm.exec) (hg : g.method = m) {x y : Int64} {rest : List Value} (hd : decode c.code g.pc = .ok (.lrem, 1)) (hs : g.stack = .long y :: .long x :: rest) (hy : y ≠ 0)
    (hr : Steps p.tables e below (T.setTop { g with pc := g.pc + 1, stack := .long (x % y) :: rest }) target) : Steps p.tables e below (T.setTop g) target :=
  XS.lrem X.here hx hg hd hs hy (by rw [own_lrem_eq x y]; exact hr)
end OwnRet
/-! an array: its length, and what each place holds -/
abbrev own_At (j : Int32) (k : Nat) : Prop := ¬ j < 0 ∧ j.toNatClampNeg = k
def own_upd (f : Nat → Value) (k : Nat) (v : Value) : Nat → Value := fun i => if i = k then v else f i
theorem own_upd_hit {f : Nat → Value} {k i : Nat} {v : Value} (h : i = k) : own_upd f k v i = v := if_pos h
theorem own_upd_miss {f : Nat → Value} {k i : Nat} {v : Value} (h : ¬ i = k) : own_upd f k v i = f i := if_neg h
def own_Av (Z : State) (h : Heap) (a : Addr) (ty : FieldType) (n : Nat) (f : Nat → Value) : Prop := ∃ c : Cell, Arr Z h a c ty ∧ c.slots.size = n ∧ ∀ i, i < n → c.slots[i]? = some (f i)
section OwnArr
variable {Z : State} {h h' : Heap} {a b : Addr} {ty : FieldType} {n k sl : Nat} {f : Nat → Value} {v : Value} {ws : List Addr}
theorem own_Av.ext (F : own_Av Z h a ty n f) (E : Ext h h') : own_Av Z h' a ty n f := by obtain ⟨c, A, r⟩ := F; exact ⟨c, A.ext E, r⟩
theorem own_Av.other (F : own_Av Z h b ty n f) (W : Wr h h' a sl v) (q : b ≠ a) : own_Av Z h' b ty n f := by obtain ⟨c, A, r⟩ := F; exact ⟨c, A.other W q, r⟩
theorem own_Av.keep (F : own_Av Z h a ty n f) (K : Keep h h' ws) (q : a ∉ ws) : own_Av Z h' a ty n f := by obtain ⟨c, A, r⟩ := F; exact ⟨c, ⟨K.2.1 a c A.1 q, A.2⟩, r⟩
theorem own_Av.lt (F : own_Av Z h a ty n f) : a < h.size := by obtain ⟨c, A, -⟩ := F; exact A.lt
theorem own_Av.ofnew {z : Int32} {kc : ClassId} {d : Value} (A : Arr Z h a (newA kc ty z) ty) (hn : z.toNatClampNeg = n) (hd : defaultValue ty = d) : own_Av Z h a ty n (fun _ => d) := by
  subst hn hd
  exact ⟨_, A, sz_new _ _ _, fun i hi => by simp [newA, hi]⟩
theorem own_Av.set (F : own_Av Z h a ty n f) (W : Wr h h' a k v) : own_Av Z h' a ty n (own_upd f k v) := by
  obtain ⟨c, A, S, H⟩ := F
  refine ⟨_, A.same W, by rw [sz_set]; exact S, fun i hi => ?_⟩
  by_cases q : i = k
  · subst q
    rw [own_upd_hit rfl]
    simp [Cell.setSlot, S, hi]
  · rw [own_upd_miss q, ← H i hi]
    exact Array.getElem?_setIfInBounds_ne fun u => q u.symm
theorem own_Av.cong {g : Nat → Value} {n' : Nat} (F : own_Av Z h a ty n f) (hn : n = n') (q : ∀ i, i < n → f i = g i) : own_Av Z h a ty n' g := by
  subst hn
  obtain ⟨c, A, S, H⟩ := F
  exact ⟨c, A, S, fun i hi => by rw [← q i hi]; exact H i hi⟩
theorem own_in {j : Int32} (hj : own_At j k) (hk : k < n) {c : Cell} (S : c.slots.size = n) : ¬ (j < 0 ∨ c.slots.size ≤ j.toNatClampNeg) := by
  intro q
  rcases q with q | q
  · exact hj.1 q
  · rw [hj.2, S] at q; omega
variable {p : Program} {l : Launch} {e : Env} {R : Room} {s : State} {m : MethodId} {args : Array Value} {below : List Frame} {meth : Method} {c : Code} {T : State} {locs : List Loc} {cells slots : Nat}
theorem own_ldI (X : Stand p l e R s m args below meth c T locs cells slots) (hx : p.tables.exec = Jvm.exec) (hZ : Z.Warmed39 s.vm) (eT : T.heap = h) (F : own_Av Z h a .int n f) {j : Int32} (hj : own_At j k) (hk : k < n) (hv : f k = v)
    {g : JFrame} (hg : g.method = m) {rest : List Value} (hs : g.stack = .int j :: .ref a :: rest) (hd : decode c.code g.pc = .ok (.iaload, 1)) (t : State)
    (hr : Steps p.tables e below (T.setTop { g with pc := g.pc + 1, stack := v :: rest }) t) : Steps p.tables e below (T.setTop g) t := by
  obtain ⟨cl, A, S, H⟩ := F
  exact X.iaload hx (by rw [eT]; exact A.1) (State.isArrayOf_alike hZ.alike A.2.1) A.2.2 (own_in hj hk S) (by rw [hj.2, H k hk, hv]) hg hs hd t hr
theorem own_ldJ (X : Stand p l e R s m args below meth c T locs cells slots) (hx : p.tables.exec = Jvm.exec) (hZ : Z.Warmed39 s.vm) (eT : T.heap = h) (F : own_Av Z h a .long n f) {j : Int32} (hj : own_At j k) (hk : k < n) (hv : f k = v)
    {g : JFrame} (hg : g.method = m) {rest : List Value} (hs : g.stack = .int j :: .ref a :: rest) (hd : decode c.code g.pc = .ok (.laload, 1)) (t : State)
    (hr : Steps p.tables e below (T.setTop { g with pc := g.pc + 1, stack := v :: rest }) t) : Steps p.tables e below (T.setTop g) t := by
  obtain ⟨cl, A, S, H⟩ := F
  exact X.laload hx (by rw [eT]; exact A.1) (State.isArrayOf_alike hZ.alike A.2.1) A.2.2 (own_in hj hk S) (by rw [hj.2, H k hk, hv]) hg hs hd t hr
theorem own_ldS (X : Stand p l e R s m args below meth c T locs cells slots) (hx : p.tables.exec = Jvm.exec) (hZ : Z.Warmed39 s.vm) (eT : T.heap = h) (F : own_Av Z h a .short n f) {j : Int32} (hj : own_At j k) (hk : k < n) (hv : f k = v)
    {g : JFrame} (hg : g.method = m) {rest : List Value} (hs : g.stack = .int j :: .ref a :: rest) (hd : decode c.code g.pc = .ok (.saload, 1)) (t : State)
    (hr : Steps p.tables e below (T.setTop { g with pc := g.pc + 1, stack := v :: rest }) t) : Steps p.tables e below (T.setTop g) t := by
  obtain ⟨cl, A, S, H⟩ := F
  exact X.saload hx (by rw [eT]; exact A.1) (State.isArrayOf_alike hZ.alike A.2.1) A.2.2 (own_in hj hk S) (by rw [hj.2, H k hk, hv]) hg hs hd t hr
theorem own_ldC (X : Stand p l e R s m args below meth c T locs cells slots) (hx : p.tables.exec = Jvm.exec) (hZ : Z.Warmed39 s.vm) (eT : T.heap = h) (F : own_Av Z h a .char n f) {j : Int32} (hj : own_At j k) (hk : k < n) (hv : f k = v)
    {g : JFrame} (hg : g.method = m) {rest : List Value} (hs : g.stack = .int j :: .ref a :: rest) (hd : decode c.code g.pc = .ok (.caload, 1)) (t : State)
    (hr : Steps p.tables e below (T.setTop { g with pc := g.pc + 1, stack := v :: rest }) t) : Steps p.tables e below (T.setTop g) t := by
  obtain ⟨cl, A, S, H⟩ := F
  exact X.caload hx (by rw [eT]; exact A.1) (State.isArrayOf_alike hZ.alike A.2.1) A.2.2 (own_in hj hk S) (by rw [hj.2, H k hk, hv]) hg hs hd t hr
theorem own_ldB (X : Stand p l e R s m args below meth c T locs cells slots) (hx : p.tables.exec = Jvm.exec) (hZ : Z.Warmed39 s.vm) (eT : T.heap = h) (F : own_Av Z h a .byte n f) {j : Int32} (hj : own_At j k) (hk : k < n) (hv : f k = v)
    {g : JFrame} (hg : g.method = m) {rest : List Value} (hs : g.stack = .int j :: .ref a :: rest) (hd : decode c.code g.pc = .ok (.baload, 1)) (t : State)
    (hr : Steps p.tables e below (T.setTop { g with pc := g.pc + 1, stack := v :: rest }) t) : Steps p.tables e below (T.setTop g) t := by
  obtain ⟨cl, A, S, H⟩ := F
  exact X.baloadBytes hx (by rw [eT]; exact A.1) (State.isArrayOf_alike hZ.alike A.2.1) A.2.2 (own_in hj hk S) (by rw [hj.2, H k hk, hv]) hg hs hd t hr
theorem own_ldZ (X : Stand p l e R s m args below meth c T locs cells slots) (hx : p.tables.exec = Jvm.exec) (hZ : Z.Warmed39 s.vm) (eT : T.heap = h) (F : own_Av Z h a .boolean n f) {j : Int32} (hj : own_At j k) (hk : k < n) (hv : f k = v)
    {g : JFrame} (hg : g.method = m) {rest : List Value} (hs : g.stack = .int j :: .ref a :: rest) (hd : decode c.code g.pc = .ok (.baload, 1)) (t : State)
    (hr : Steps p.tables e below (T.setTop { g with pc := g.pc + 1, stack := v :: rest }) t) : Steps p.tables e below (T.setTop g) t := by
  obtain ⟨cl, A, S, H⟩ := F
  exact X.baloadBooleans hx (by rw [eT]; exact A.1) (State.isArrayOf_alike hZ.alike A.2.1) A.2.2 (own_in hj hk S) (by rw [hj.2, H k hk, hv]) hg hs hd t hr
theorem own_len (X : Stand p l e R s m args below meth c T locs cells slots) (hx : p.tables.exec = Jvm.exec) (hZ : Z.Warmed39 s.vm) (eT : T.heap = h) (F : own_Av Z h a ty n f) {z : Int32} (hz : n.toInt32 = z)
    {g : JFrame} (hg : g.method = m) {rest : List Value} (hs : g.stack = .ref a :: rest) (hd : decode c.code g.pc = .ok (.arraylength, 1)) (t : State)
    (hr : Steps p.tables e below (T.setTop { g with pc := g.pc + 1, stack := .int z :: rest }) t) : Steps p.tables e below (T.setTop g) t := by
  obtain ⟨cl, A, S, H⟩ := F
  exact X.arraylength hx (by rw [eT]; exact A.1) (State.isArrayOf_alike hZ.alike A.2.1) hg hs hd t (by rw [S, hz]; exact hr)
theorem own_stI (X : Stand p l e R s m args below meth c T locs cells slots) (hx : p.tables.exec = Jvm.exec) (hZ : Z.Warmed39 s.vm) (eT : T.heap = h) (F : own_Av Z h a .int n f) {j x : Int32} (hj : own_At j k) (hk : k < n)
    {g : JFrame} (hg : g.method = m) {rest : List Value} (hs : g.stack = .int x :: .int j :: .ref a :: rest) (hd : decode c.code g.pc = .ok (.iastore, 1)) :
    ∃ T' h', Stand p l e R s m args below meth c T' (locs ++ [⟨a, k⟩]) cells slots ∧ T'.heap = h' ∧ Wr h h' a k (.int x) ∧ own_Av Z h' a .int n (own_upd f k (.int x)) ∧ ∀ target, Steps p.tables e below (T'.setTop { g with pc := g.pc + 1, stack := rest }) target → Steps p.tables e below (T.setTop g) target := by
  obtain ⟨cl, A, S, H⟩ := id F
  obtain ⟨T', h', X', e', W', st⟩ := stI X hx hZ eT A (own_in hj hk S) hg hs hd
  rw [hj.2] at X' W'
  exact ⟨T', h', X', e', W', F.set W', st⟩
theorem own_stJ (X : Stand p l e R s m args below meth c T locs cells slots) (hx : p.tables.exec = Jvm.exec) (hZ : Z.Warmed39 s.vm) (eT : T.heap = h) (F : own_Av Z h a .long n f) {j : Int32} {x : Int64} (hj : own_At j k) (hk : k < n)
    {g : JFrame} (hg : g.method = m) {rest : List Value} (hs : g.stack = .long x :: .int j :: .ref a :: rest) (hd : decode c.code g.pc = .ok (.lastore, 1)) :
    ∃ T' h', Stand p l e R s m args below meth c T' (locs ++ [⟨a, k⟩]) cells slots ∧ T'.heap = h' ∧ Wr h h' a k (.long x) ∧ own_Av Z h' a .long n (own_upd f k (.long x)) ∧ ∀ target, Steps p.tables e below (T'.setTop { g with pc := g.pc + 1, stack := rest }) target → Steps p.tables e below (T.setTop g) target := by
  obtain ⟨cl, A, S, H⟩ := id F
  obtain ⟨T', h', X', e', W', st⟩ := stJ X hx hZ eT A (own_in hj hk S) hg hs hd
  rw [hj.2] at X' W'
  exact ⟨T', h', X', e', W', F.set W', st⟩
theorem own_stB (X : Stand p l e R s m args below meth c T locs cells slots) (hx : p.tables.exec = Jvm.exec) (hZ : Z.Warmed39 s.vm) (eT : T.heap = h) (F : own_Av Z h a .byte n f) {j x : Int32} (hj : own_At j k) (hk : k < n)
    {g : JFrame} (hg : g.method = m) {rest : List Value} (hs : g.stack = .int x :: .int j :: .ref a :: rest) (hd : decode c.code g.pc = .ok (.bastore, 1)) :
    ∃ T' h', Stand p l e R s m args below meth c T' (locs ++ [⟨a, k⟩]) cells slots ∧ T'.heap = h' ∧ Wr h h' a k (.int x.toInt8.toInt32) ∧ own_Av Z h' a .byte n (own_upd f k (.int x.toInt8.toInt32)) ∧ ∀ target, Steps p.tables e below (T'.setTop { g with pc := g.pc + 1, stack := rest }) target → Steps p.tables e below (T.setTop g) target := by
  obtain ⟨cl, A, S, H⟩ := id F
  obtain ⟨T', h', X', e', W', st⟩ := stB X hx hZ eT A (own_in hj hk S) hg hs hd
  rw [hj.2] at X' W'
  exact ⟨T', h', X', e', W', F.set W', st⟩
theorem own_stZ (X : Stand p l e R s m args below meth c T locs cells slots) (hx : p.tables.exec = Jvm.exec) (hZ : Z.Warmed39 s.vm) (eT : T.heap = h) (F : own_Av Z h a .boolean n f) {j x : Int32} (hj : own_At j k) (hk : k < n)
    {g : JFrame} (hg : g.method = m) {rest : List Value} (hs : g.stack = .int x :: .int j :: .ref a :: rest) (hd : decode c.code g.pc = .ok (.bastore, 1)) :
    ∃ T' h', Stand p l e R s m args below meth c T' (locs ++ [⟨a, k⟩]) cells slots ∧ T'.heap = h' ∧ Wr h h' a k (.int (x &&& 1)) ∧ own_Av Z h' a .boolean n (own_upd f k (.int (x &&& 1))) ∧ ∀ target, Steps p.tables e below (T'.setTop { g with pc := g.pc + 1, stack := rest }) target → Steps p.tables e below (T.setTop g) target := by
  obtain ⟨cl, A, S, H⟩ := id F
  obtain ⟨T', h', X', e', W', st⟩ := stZ X hx hZ eT A (own_in hj hk S) hg hs hd
  rw [hj.2] at X' W'
  exact ⟨T', h', X', e', W', F.set W', st⟩
theorem own_stC (X : Stand p l e R s m args below meth c T locs cells slots) (hx : p.tables.exec = Jvm.exec) (hZ : Z.Warmed39 s.vm) (eT : T.heap = h) (F : own_Av Z h a .char n f) {j x : Int32} (hj : own_At j k) (hk : k < n)
    {g : JFrame} (hg : g.method = m) {rest : List Value} (hs : g.stack = .int x :: .int j :: .ref a :: rest) (hd : decode c.code g.pc = .ok (.castore, 1)) :
    ∃ T' h', Stand p l e R s m args below meth c T' (locs ++ [⟨a, k⟩]) cells slots ∧ T'.heap = h' ∧ Wr h h' a k (.int (nar .char x)) ∧ own_Av Z h' a .char n (own_upd f k (.int (nar .char x))) ∧ ∀ target, Steps p.tables e below (T'.setTop { g with pc := g.pc + 1, stack := rest }) target → Steps p.tables e below (T.setTop g) target := by
  obtain ⟨cl, A, S, H⟩ := id F
  obtain ⟨T', h', X', e', W', st⟩ := stC X hx hZ eT A (own_in hj hk S) hg hs hd
  rw [hj.2] at X' W'
  exact ⟨T', h', X', e', W', F.set W', st⟩
theorem own_stS (X : Stand p l e R s m args below meth c T locs cells slots) (hx : p.tables.exec = Jvm.exec) (hZ : Z.Warmed39 s.vm) (eT : T.heap = h) (F : own_Av Z h a .short n f) {j x : Int32} (hj : own_At j k) (hk : k < n)
    {g : JFrame} (hg : g.method = m) {rest : List Value} (hs : g.stack = .int x :: .int j :: .ref a :: rest) (hd : decode c.code g.pc = .ok (.sastore, 1)) :
    ∃ T' h', Stand p l e R s m args below meth c T' (locs ++ [⟨a, k⟩]) cells slots ∧ T'.heap = h' ∧ Wr h h' a k (.int (nar .short x)) ∧ own_Av Z h' a .short n (own_upd f k (.int (nar .short x))) ∧ ∀ target, Steps p.tables e below (T'.setTop { g with pc := g.pc + 1, stack := rest }) target → Steps p.tables e below (T.setTop g) target := by
  obtain ⟨cl, A, S, H⟩ := id F
  obtain ⟨T', h', X', e', W', st⟩ := stS X hx hZ eT A (own_in hj hk S) hg hs hd
  rw [hj.2] at X' W'
  exact ⟨T', h', X', e', W', F.set W', st⟩
end OwnArr
theorem own_selP {Z s : State} {a0 args : Array Value} {y : MethodName} {n : Nat} (hZ : Z.Warmed39 s.vm) (wi : (Cond.instantiable y.cls n).before a0 Z = true) (wp : (Cond.privateMethod y).before a0 Z = true) (wm : (Cond.instanceMethod y).before a0 Z = true)
    (hy : y.cls ≠ "java/lang/invoke/MethodHandle" ∧ y.cls ≠ "java/lang/invoke/VarHandle") : (Cond.selects y.cls y y).before args s = true := by
  have w : (Cond.instantiable y.cls n).before args s = true := mvT hZ wi
  obtain ⟨c, k, h1, h2, -, h4, -⟩ := Cond.instantiable_spec w
  exact Jvm.Stand.selects_self_of_private h1 h2 (Bool.or_eq_false_iff.mp h4).1 (Cond.privateMethod_at (mvP hZ wp (args := args))) (mvT hZ wm) hy
theorem own_narZ {x : Int32} (h : x &&& 1 = x) : narrow .boolean (.int x) = .int x := by
  show Value.int (x &&& 1) = _
  rw [h]
theorem own_fitZ {x : Int32} (h : x &&& 1 = x) : fits .boolean (.int x) = true := by
  have q := fits_nar_bool x
  rw [show nar .boolean x = x from h] at q
  exact q
theorem own_mono {p : Program} {e : Env} {below : List Frame} {s T : State} {g : JFrame} {Q Q' : Option Value → Heap → List Loc → Prop} {k j : Nat} (h : ∀ v h L, Q v h L → Q' v h L) (G : own_Go p e below T g (own_Fin s Q k j)) : own_Go p e below T g (own_Fin s Q' k j) := by
  obtain ⟨s₂, o, h1, h2, h3, v, L, h4, h5, h6⟩ := G
  exact ⟨s₂, o, h1, h2, h3, v, L, h4, h _ _ _ h5, h6⟩
theorem own_ofs (i : Nat) : Int32.ofNat i + (1 : Int32) = Int32.ofNat (i + 1) := (Int32.ofNat_add i 1).symm
theorem own_toI {i : Nat} (h : i < 2147483648) : (Int32.ofNat i).toInt = i := Int32.toInt_ofNat_small h
theorem own_ix {i : Nat} (h : i < 2147483648) : own_At (Int32.ofNat i) i := by
  have e := own_toI h
  refine ⟨?_, ?_⟩
  · rw [Int32.lt_iff_toInt_lt, e, show (0 : Int32).toInt = 0 from by decide]; omega
  · simp only [Int32.toNatClampNeg, e]; omega
theorem own_oflt {i n : Nat} (hi : i < 2147483648) (hn : n < 2147483648) : Int32.ofNat i < Int32.ofNat n ↔ i < n := by
  rw [Int32.lt_iff_toInt_lt, own_toI hi, own_toI hn]; omega
theorem own_ofeq {i n : Nat} (hi : i < 2147483648) (hn : n < 2147483648) : Int32.ofNat i = Int32.ofNat n ↔ i = n := by
  rw [← Int32.toInt_inj, own_toI hi, own_toI hn]; omega
def own_fl (F : Nat → Int32) (i : Nat) (g : Nat → Value) (j : Nat) : Value := if j < i then .int (F j) else g j
theorem own_fl_up (F : Nat → Int32) (i : Nat) (g : Nat → Value) : ∀ j, own_upd (own_fl F i g) i (.int (F i)) j = own_fl F (i + 1) g j := fun j => by
  unfold own_fl
  by_cases q : j = i
  · subst q; rw [own_upd_hit rfl, if_pos (by omega)]
  · rw [own_upd_miss q]
    by_cases q2 : j < i
    · rw [if_pos q2, if_pos (by omega)]
    · rw [if_neg q2, if_neg (by omega)]
theorem own_fl0 (F : Nat → Int32) (g : Nat → Value) : ∀ j, g j = own_fl F 0 g j := fun j => by unfold own_fl; rw [if_neg (by omega)]
theorem own_fl_in {F : Nat → Int32} {i j : Nat} {g : Nat → Value} (h : j < i) : own_fl F i g j = .int (F j) := if_pos h
theorem own_fl_out {F : Nat → Int32} {i j : Nat} {g : Nat → Value} (h : ¬ j < i) : own_fl F i g j = g j := if_neg h

/-! single steps over own_Go -/
theorem own_s_iadd {p : Program} {e : Env} {below : List Frame} {T : State} {m : MethodId} {c : Code} {Φ : Outcome → State → Prop} {pc : Nat} {L : Array Slot} {S : List Value} (h : At T m c below) (hx : p.tables.exec = Jvm.exec) {x y : Int32} (hd : decode c.code pc = .ok (.iadd, 1)) (G : own_Go p e below T (mkF m (pc + 1) L (.int (x + y) :: S)) Φ) : own_Go p e below T (mkF m pc L (.int y :: .int x :: S)) Φ := own_by (fun t k => XS.iadd h hx rfl hd rfl k) G
theorem own_s_isub {p : Program} {e : Env} {below : List Frame} {T : State} {m : MethodId} {c : Code} {Φ : Outcome → State → Prop} {pc : Nat} {L : Array Slot} {S : List Value} (h : At T m c below) (hx : p.tables.exec = Jvm.exec) {x y : Int32} (hd : decode c.code pc = .ok (.isub, 1)) (G : own_Go p e below T (mkF m (pc + 1) L (.int (x - y) :: S)) Φ) : own_Go p e below T (mkF m pc L (.int y :: .int x :: S)) Φ := own_by (fun t k => XS.isub h hx rfl hd rfl k) G
theorem own_s_imul {p : Program} {e : Env} {below : List Frame} {T : State} {m : MethodId} {c : Code} {Φ : Outcome → State → Prop} {pc : Nat} {L : Array Slot} {S : List Value} (h : At T m c below) (hx : p.tables.exec = Jvm.exec) {x y : Int32} (hd : decode c.code pc = .ok (.imul, 1)) (G : own_Go p e below T (mkF m (pc + 1) L (.int (x * y) :: S)) Φ) : own_Go p e below T (mkF m pc L (.int y :: .int x :: S)) Φ := own_by (fun t k => XS.imul h hx rfl hd rfl k) G
theorem own_s_iand {p : Program} {e : Env} {below : List Frame} {T : State} {m : MethodId} {c : Code} {Φ : Outcome → State → Prop} {pc : Nat} {L : Array Slot} {S : List Value} (h : At T m c below) (hx : p.tables.exec = Jvm.exec) {x y : Int32} (hd : decode c.code pc = .ok (.iand, 1)) (G : own_Go p e below T (mkF m (pc + 1) L (.int (x &&& y) :: S)) Φ) : own_Go p e below T (mkF m pc L (.int y :: .int x :: S)) Φ := own_by (fun t k => XS.iand h hx rfl hd rfl k) G
theorem own_s_ior {p : Program} {e : Env} {below : List Frame} {T : State} {m : MethodId} {c : Code} {Φ : Outcome → State → Prop} {pc : Nat} {L : Array Slot} {S : List Value} (h : At T m c below) (hx : p.tables.exec = Jvm.exec) {x y : Int32} (hd : decode c.code pc = .ok (.ior, 1)) (G : own_Go p e below T (mkF m (pc + 1) L (.int (x ||| y) :: S)) Φ) : own_Go p e below T (mkF m pc L (.int y :: .int x :: S)) Φ := own_by (fun t k => XS.ior h hx rfl hd rfl k) G
theorem own_s_ixor {p : Program} {e : Env} {below : List Frame} {T : State} {m : MethodId} {c : Code} {Φ : Outcome → State → Prop} {pc : Nat} {L : Array Slot} {S : List Value} (h : At T m c below) (hx : p.tables.exec = Jvm.exec) {x y : Int32} (hd : decode c.code pc = .ok (.ixor, 1)) (G : own_Go p e below T (mkF m (pc + 1) L (.int (x ^^^ y) :: S)) Φ) : own_Go p e below T (mkF m pc L (.int y :: .int x :: S)) Φ := own_by (fun t k => XS.ixor h hx rfl hd rfl k) G
theorem own_s_ladd {p : Program} {e : Env} {below : List Frame} {T : State} {m : MethodId} {c : Code} {Φ : Outcome → State → Prop} {pc : Nat} {L : Array Slot} {S : List Value} (h : At T m c below) (hx : p.tables.exec = Jvm.exec) {x y : Int64} (hd : decode c.code pc = .ok (.ladd, 1)) (G : own_Go p e below T (mkF m (pc + 1) L (.long (x + y) :: S)) Φ) : own_Go p e below T (mkF m pc L (.long y :: .long x :: S)) Φ := own_by (fun t k => XS.ladd h hx rfl hd rfl k) G
theorem own_s_lsub {p : Program} {e : Env} {below : List Frame} {T : State} {m : MethodId} {c : Code} {Φ : Outcome → State → Prop} {pc : Nat} {L : Array Slot} {S : List Value} (h : At T m c below) (hx : p.tables.exec = Jvm.exec) {x y : Int64} (hd : decode c.code pc = .ok (.lsub, 1)) (G : own_Go p e below T (mkF m (pc + 1) L (.long (x - y) :: S)) Φ) : own_Go p e below T (mkF m pc L (.long y :: .long x :: S)) Φ := own_by (fun t k => XS.lsub h hx rfl hd rfl k) G
theorem own_s_lmul {p : Program} {e : Env} {below : List Frame} {T : State} {m : MethodId} {c : Code} {Φ : Outcome → State → Prop} {pc : Nat} {L : Array Slot} {S : List Value} (h : At T m c below) (hx : p.tables.exec = Jvm.exec) {x y : Int64} (hd : decode c.code pc = .ok (.lmul, 1)) (G : own_Go p e below T (mkF m (pc + 1) L (.long (x * y) :: S)) Φ) : own_Go p e below T (mkF m pc L (.long y :: .long x :: S)) Φ := own_by (fun t k => XS.lmul h hx rfl hd rfl k) G
theorem own_s_land {p : Program} {e : Env} {below : List Frame} {T : State} {m : MethodId} {c : Code} {Φ : Outcome → State → Prop} {pc : Nat} {L : Array Slot} {S : List Value} (h : At T m c below) (hx : p.tables.exec = Jvm.exec) {x y : Int64} (hd : decode c.code pc = .ok (.land, 1)) (G : own_Go p e below T (mkF m (pc + 1) L (.long (x &&& y) :: S)) Φ) : own_Go p e below T (mkF m pc L (.long y :: .long x :: S)) Φ := own_by (fun t k => XS.land h hx rfl hd rfl k) G
theorem own_s_lor {p : Program} {e : Env} {below : List Frame} {T : State} {m : MethodId} {c : Code} {Φ : Outcome → State → Prop} {pc : Nat} {L : Array Slot} {S : List Value} (h : At T m c below) (hx : p.tables.exec = Jvm.exec) {x y : Int64} (hd : decode c.code pc = .ok (.lor, 1)) (G : own_Go p e below T (mkF m (pc + 1) L (.long (x ||| y) :: S)) Φ) : own_Go p e below T (mkF m pc L (.long y :: .long x :: S)) Φ := own_by (fun t k => XS.lor h hx rfl hd rfl k) G
theorem own_s_lxor {p : Program} {e : Env} {below : List Frame} {T : State} {m : MethodId} {c : Code} {Φ : Outcome → State → Prop} {pc : Nat} {L : Array Slot} {S : List Value} (h : At T m c below) (hx : p.tables.exec = Jvm.exec) {x y : Int64} (hd : decode c.code pc = .ok (.lxor, 1)) (G : own_Go p e below T (mkF m (pc + 1) L (.long (x ^^^ y) :: S)) Φ) : own_Go p e below T (mkF m pc L (.long y :: .long x :: S)) Φ := own_by (fun t k => XS.lxor h hx rfl hd rfl k) G
theorem own_s_ishl {p : Program} {e : Env} {below : List Frame} {T : State} {m : MethodId} {c : Code} {Φ : Outcome → State → Prop} {pc : Nat} {L : Array Slot} {S : List Value} (h : At T m c below) (hx : p.tables.exec = Jvm.exec) {x y : Int32} (hd : decode c.code pc = .ok (.ishl, 1)) (G : own_Go p e below T (mkF m (pc + 1) L (.int (x <<< (y &&& 31)) :: S)) Φ) : own_Go p e below T (mkF m pc L (.int y :: .int x :: S)) Φ := own_by (fun t k => XS.ishl h hx rfl hd rfl k) G
theorem own_s_ishr {p : Program} {e : Env} {below : List Frame} {T : State} {m : MethodId} {c : Code} {Φ : Outcome → State → Prop} {pc : Nat} {L : Array Slot} {S : List Value} (h : At T m c below) (hx : p.tables.exec = Jvm.exec) {x y : Int32} (hd : decode c.code pc = .ok (.ishr, 1)) (G : own_Go p e below T (mkF m (pc + 1) L (.int (x >>> (y &&& 31)) :: S)) Φ) : own_Go p e below T (mkF m pc L (.int y :: .int x :: S)) Φ := own_by (fun t k => XS.ishr h hx rfl hd rfl k) G
theorem own_s_iushr {p : Program} {e : Env} {below : List Frame} {T : State} {m : MethodId} {c : Code} {Φ : Outcome → State → Prop} {pc : Nat} {L : Array Slot} {S : List Value} (h : At T m c below) (hx : p.tables.exec = Jvm.exec) {x y : Int32} (hd : decode c.code pc = .ok (.iushr, 1)) (G : own_Go p e below T (mkF m (pc + 1) L (.int ((x.toUInt32 >>> (y &&& 31).toUInt32).toInt32) :: S)) Φ) : own_Go p e below T (mkF m pc L (.int y :: .int x :: S)) Φ := own_by (fun t k => XS.iushr h hx rfl hd rfl k) G
theorem own_s_lshl {p : Program} {e : Env} {below : List Frame} {T : State} {m : MethodId} {c : Code} {Φ : Outcome → State → Prop} {pc : Nat} {L : Array Slot} {S : List Value} (h : At T m c below) (hx : p.tables.exec = Jvm.exec) {x : Int64} {y : Int32} (hd : decode c.code pc = .ok (.lshl, 1)) (G : own_Go p e below T (mkF m (pc + 1) L (.long (x <<< (y &&& 0x3f).toInt64) :: S)) Φ) : own_Go p e below T (mkF m pc L (.int y :: .long x :: S)) Φ := own_by (fun t k => XS.lshl h hx rfl hd rfl k) G
theorem own_s_lshr {p : Program} {e : Env} {below : List Frame} {T : State} {m : MethodId} {c : Code} {Φ : Outcome → State → Prop} {pc : Nat} {L : Array Slot} {S : List Value} (h : At T m c below) (hx : p.tables.exec = Jvm.exec) {x : Int64} {y : Int32} (hd : decode c.code pc = .ok (.lshr, 1)) (G : own_Go p e below T (mkF m (pc + 1) L (.long (x >>> (y &&& 0x3f).toInt64) :: S)) Φ) : own_Go p e below T (mkF m pc L (.int y :: .long x :: S)) Φ := own_by (fun t k => XS.lshr h hx rfl hd rfl k) G
theorem own_s_lushr {p : Program} {e : Env} {below : List Frame} {T : State} {m : MethodId} {c : Code} {Φ : Outcome → State → Prop} {pc : Nat} {L : Array Slot} {S : List Value} (h : At T m c below) (hx : p.tables.exec = Jvm.exec) {x : Int64} {y : Int32} (hd : decode c.code pc = .ok (.lushr, 1)) (G : own_Go p e below T (mkF m (pc + 1) L (.long ((x.toUInt64 >>> (y &&& 0x3f).toInt64.toUInt64).toInt64) :: S)) Φ) : own_Go p e below T (mkF m pc L (.int y :: .long x :: S)) Φ := own_by (fun t k => XS.lushr h hx rfl hd rfl k) G
theorem own_s_ineg {p : Program} {e : Env} {below : List Frame} {T : State} {m : MethodId} {c : Code} {Φ : Outcome → State → Prop} {pc : Nat} {L : Array Slot} {S : List Value} (h : At T m c below) (hx : p.tables.exec = Jvm.exec) {x : Int32} (hd : decode c.code pc = .ok (.ineg, 1)) (G : own_Go p e below T (mkF m (pc + 1) L (.int (-x) :: S)) Φ) : own_Go p e below T (mkF m pc L (.int x :: S)) Φ := own_by (fun t k => XS.ineg h hx rfl hd rfl k) G
theorem own_s_lneg {p : Program} {e : Env} {below : List Frame} {T : State} {m : MethodId} {c : Code} {Φ : Outcome → State → Prop} {pc : Nat} {L : Array Slot} {S : List Value} (h : At T m c below) (hx : p.tables.exec = Jvm.exec) {x : Int64} (hd : decode c.code pc = .ok (.lneg, 1)) (G : own_Go p e below T (mkF m (pc + 1) L (.long (-x) :: S)) Φ) : own_Go p e below T (mkF m pc L (.long x :: S)) Φ := own_by (fun t k => XS.lneg h hx rfl hd rfl k) G
theorem own_s_i2l {p : Program} {e : Env} {below : List Frame} {T : State} {m : MethodId} {c : Code} {Φ : Outcome → State → Prop} {pc : Nat} {L : Array Slot} {S : List Value} (h : At T m c below) (hx : p.tables.exec = Jvm.exec) {x : Int32} (hd : decode c.code pc = .ok (.i2l, 1)) (G : own_Go p e below T (mkF m (pc + 1) L (.long (x.toInt64) :: S)) Φ) : own_Go p e below T (mkF m pc L (.int x :: S)) Φ := own_by (fun t k => XS.i2l h hx rfl hd rfl k) G
theorem own_s_l2i {p : Program} {e : Env} {below : List Frame} {T : State} {m : MethodId} {c : Code} {Φ : Outcome → State → Prop} {pc : Nat} {L : Array Slot} {S : List Value} (h : At T m c below) (hx : p.tables.exec = Jvm.exec) {x : Int64} (hd : decode c.code pc = .ok (.l2i, 1)) (G : own_Go p e below T (mkF m (pc + 1) L (.int (x.toInt32) :: S)) Φ) : own_Go p e below T (mkF m pc L (.long x :: S)) Φ := own_by (fun t k => XS.l2i h hx rfl hd rfl k) G
theorem own_s_i2b {p : Program} {e : Env} {below : List Frame} {T : State} {m : MethodId} {c : Code} {Φ : Outcome → State → Prop} {pc : Nat} {L : Array Slot} {S : List Value} (h : At T m c below) (hx : p.tables.exec = Jvm.exec) {x : Int32} (hd : decode c.code pc = .ok (.i2b, 1)) (G : own_Go p e below T (mkF m (pc + 1) L (.int (x.toInt8.toInt32) :: S)) Φ) : own_Go p e below T (mkF m pc L (.int x :: S)) Φ := own_by (fun t k => XS.i2b h hx rfl hd rfl k) G
theorem own_s_i2s {p : Program} {e : Env} {below : List Frame} {T : State} {m : MethodId} {c : Code} {Φ : Outcome → State → Prop} {pc : Nat} {L : Array Slot} {S : List Value} (h : At T m c below) (hx : p.tables.exec = Jvm.exec) {x : Int32} (hd : decode c.code pc = .ok (.i2s, 1)) (G : own_Go p e below T (mkF m (pc + 1) L (.int (x.toInt16.toInt32) :: S)) Φ) : own_Go p e below T (mkF m pc L (.int x :: S)) Φ := own_by (fun t k => XS.i2s h hx rfl hd rfl k) G
theorem own_s_i2c {p : Program} {e : Env} {below : List Frame} {T : State} {m : MethodId} {c : Code} {Φ : Outcome → State → Prop} {pc : Nat} {L : Array Slot} {S : List Value} (h : At T m c below) (hx : p.tables.exec = Jvm.exec) {x : Int32} (hd : decode c.code pc = .ok (.i2c, 1)) (G : own_Go p e below T (mkF m (pc + 1) L (.int (x.toUInt32.toUInt16.toUInt32.toInt32) :: S)) Φ) : own_Go p e below T (mkF m pc L (.int x :: S)) Φ := own_by (fun t k => XS.i2c h hx rfl hd rfl k) G
theorem own_s_iloadN {p : Program} {e : Env} {below : List Frame} {T : State} {m : MethodId} {c : Code} {Φ : Outcome → State → Prop} {pc : Nat} {L : Array Slot} {S : List Value} (h : At T m c below) (hx : p.tables.exec = Jvm.exec) {i : Fin 4} {v : Int32} (hd : decode c.code pc = .ok (.iload_n i, 1)) (hl : L[i.val]? = some (.val (.int v))) (G : own_Go p e below T (mkF m (pc + 1) L (.int v :: S)) Φ) : own_Go p e below T (mkF m pc L S) Φ := own_by (fun t k => XS.iloadN h hx rfl hd hl k) G
theorem own_s_iload {p : Program} {e : Env} {below : List Frame} {T : State} {m : MethodId} {c : Code} {Φ : Outcome → State → Prop} {pc : Nat} {L : Array Slot} {S : List Value} (h : At T m c below) (hx : p.tables.exec = Jvm.exec) {i : Nat} {v : Int32} (hd : decode c.code pc = .ok (.iload i, 2)) (hl : L[i]? = some (.val (.int v))) (G : own_Go p e below T (mkF m (pc + 2) L (.int v :: S)) Φ) : own_Go p e below T (mkF m pc L S) Φ := own_by (fun t k => XS.iload h hx rfl hd hl k) G
theorem own_s_lloadN {p : Program} {e : Env} {below : List Frame} {T : State} {m : MethodId} {c : Code} {Φ : Outcome → State → Prop} {pc : Nat} {L : Array Slot} {S : List Value} (h : At T m c below) (hx : p.tables.exec = Jvm.exec) {i : Fin 4} {v : Int64} (hd : decode c.code pc = .ok (.lload_n i, 1)) (hl : L[i.val]? = some (.val (.long v))) (G : own_Go p e below T (mkF m (pc + 1) L (.long v :: S)) Φ) : own_Go p e below T (mkF m pc L S) Φ := own_by (fun t k => XS.lloadN h hx rfl hd hl k) G
theorem own_s_lload {p : Program} {e : Env} {below : List Frame} {T : State} {m : MethodId} {c : Code} {Φ : Outcome → State → Prop} {pc : Nat} {L : Array Slot} {S : List Value} (h : At T m c below) (hx : p.tables.exec = Jvm.exec) {i : Nat} {v : Int64} (hd : decode c.code pc = .ok (.lload i, 2)) (hl : L[i]? = some (.val (.long v))) (G : own_Go p e below T (mkF m (pc + 2) L (.long v :: S)) Φ) : own_Go p e below T (mkF m pc L S) Φ := own_by (fun t k => XS.lload h hx rfl hd hl k) G
theorem own_s_aloadN {p : Program} {e : Env} {below : List Frame} {T : State} {m : MethodId} {c : Code} {Φ : Outcome → State → Prop} {pc : Nat} {L : Array Slot} {S : List Value} (h : At T m c below) (hx : p.tables.exec = Jvm.exec) {i : Fin 4} {v : Value} (hd : decode c.code pc = .ok (.aload_n i, 1)) (hl : L[i.val]? = some (.val v)) (hv : v.isRef = true) (G : own_Go p e below T (mkF m (pc + 1) L (v :: S)) Φ) : own_Go p e below T (mkF m pc L S) Φ := own_by (fun t k => XS.aloadN h hx rfl hd hl hv k) G
theorem own_s_aload {p : Program} {e : Env} {below : List Frame} {T : State} {m : MethodId} {c : Code} {Φ : Outcome → State → Prop} {pc : Nat} {L : Array Slot} {S : List Value} (h : At T m c below) (hx : p.tables.exec = Jvm.exec) {i : Nat} {v : Value} (hd : decode c.code pc = .ok (.aload i, 2)) (hl : L[i]? = some (.val v)) (hv : v.isRef = true) (G : own_Go p e below T (mkF m (pc + 2) L (v :: S)) Φ) : own_Go p e below T (mkF m pc L S) Φ := own_by (fun t k => XS.aload h hx rfl hd hl hv k) G
theorem own_s_istoreN {p : Program} {e : Env} {below : List Frame} {T : State} {m : MethodId} {c : Code} {Φ : Outcome → State → Prop} {pc : Nat} {L : Array Slot} {S : List Value} (h : At T m c below) (hx : p.tables.exec = Jvm.exec) {i : Fin 4} {v : Int32} (L' : Array Slot) (hd : decode c.code pc = .ok (.istore_n i, 1)) (hl : storeLocals L i.val (.int v) = some L') (G : own_Go p e below T (mkF m (pc + 1) L' S) Φ) : own_Go p e below T (mkF m pc L (.int v :: S)) Φ := own_by (fun t k => XS.istoreN h hx rfl hd rfl hl k) G
theorem own_s_istore {p : Program} {e : Env} {below : List Frame} {T : State} {m : MethodId} {c : Code} {Φ : Outcome → State → Prop} {pc : Nat} {L : Array Slot} {S : List Value} (h : At T m c below) (hx : p.tables.exec = Jvm.exec) {i : Nat} {v : Int32} (L' : Array Slot) (hd : decode c.code pc = .ok (.istore i, 2)) (hl : storeLocals L i (.int v) = some L') (G : own_Go p e below T (mkF m (pc + 2) L' S) Φ) : own_Go p e below T (mkF m pc L (.int v :: S)) Φ := own_by (fun t k => XS.istore h hx rfl hd rfl hl k) G
theorem own_s_lstoreN {p : Program} {e : Env} {below : List Frame} {T : State} {m : MethodId} {c : Code} {Φ : Outcome → State → Prop} {pc : Nat} {L : Array Slot} {S : List Value} (h : At T m c below) (hx : p.tables.exec = Jvm.exec) {i : Fin 4} {v : Int64} (L' : Array Slot) (hd : decode c.code pc = .ok (.lstore_n i, 1)) (hl : storeLocals L i.val (.long v) = some L') (G : own_Go p e below T (mkF m (pc + 1) L' S) Φ) : own_Go p e below T (mkF m pc L (.long v :: S)) Φ := own_by (fun t k => XS.lstoreN h hx rfl hd rfl hl k) G
theorem own_s_lstore {p : Program} {e : Env} {below : List Frame} {T : State} {m : MethodId} {c : Code} {Φ : Outcome → State → Prop} {pc : Nat} {L : Array Slot} {S : List Value} (h : At T m c below) (hx : p.tables.exec = Jvm.exec) {i : Nat} {v : Int64} (L' : Array Slot) (hd : decode c.code pc = .ok (.lstore i, 2)) (hl : storeLocals L i (.long v) = some L') (G : own_Go p e below T (mkF m (pc + 2) L' S) Φ) : own_Go p e below T (mkF m pc L (.long v :: S)) Φ := own_by (fun t k => XS.lstore h hx rfl hd rfl hl k) G
theorem own_s_astoreN {p : Program} {e : Env} {below : List Frame} {T : State} {m : MethodId} {c : Code} {Φ : Outcome → State → Prop} {pc : Nat} {L : Array Slot} {S : List Value} (h : At T m c below) (hx : p.tables.exec = Jvm.exec) {i : Fin 4} {v : Value} (L' : Array Slot) (hd : decode c.code pc = .ok (.astore_n i, 1)) (hv : v.isRef = true) (hl : storeLocals L i.val v = some L') (G : own_Go p e below T (mkF m (pc + 1) L' S) Φ) : own_Go p e below T (mkF m pc L (v :: S)) Φ := own_by (fun t k => XS.astoreN h hx rfl hd rfl hv hl k) G
theorem own_s_astore {p : Program} {e : Env} {below : List Frame} {T : State} {m : MethodId} {c : Code} {Φ : Outcome → State → Prop} {pc : Nat} {L : Array Slot} {S : List Value} (h : At T m c below) (hx : p.tables.exec = Jvm.exec) {i : Nat} {v : Value} (L' : Array Slot) (hd : decode c.code pc = .ok (.astore i, 2)) (hv : v.isRef = true) (hl : storeLocals L i v = some L') (G : own_Go p e below T (mkF m (pc + 2) L' S) Φ) : own_Go p e below T (mkF m pc L (v :: S)) Φ := own_by (fun t k => XS.astore h hx rfl hd rfl hv hl k) G
theorem own_s_iconst {p : Program} {e : Env} {below : List Frame} {T : State} {m : MethodId} {c : Code} {Φ : Outcome → State → Prop} {pc : Nat} {L : Array Slot} {S : List Value} (h : At T m c below) (hx : p.tables.exec = Jvm.exec) {i : Int} (v : Int32) (hd : decode c.code pc = .ok (.iconst i, 1)) (hv : Int32.ofInt i = v) (G : own_Go p e below T (mkF m (pc + 1) L (.int v :: S)) Φ) : own_Go p e below T (mkF m pc L S) Φ := own_by (fun t k => XS.iconst h hx rfl hd (by rw [hv]; exact k)) G
theorem own_s_bipush {p : Program} {e : Env} {below : List Frame} {T : State} {m : MethodId} {c : Code} {Φ : Outcome → State → Prop} {pc : Nat} {L : Array Slot} {S : List Value} (h : At T m c below) (hx : p.tables.exec = Jvm.exec) {i : Int} (v : Int32) (hd : decode c.code pc = .ok (.bipush i, 2)) (hv : (Int8.ofInt i).toInt32 = v) (G : own_Go p e below T (mkF m (pc + 2) L (.int v :: S)) Φ) : own_Go p e below T (mkF m pc L S) Φ := own_by (fun t k => XS.bipush h hx rfl hd (by rw [hv]; exact k)) G
theorem own_s_sipush {p : Program} {e : Env} {below : List Frame} {T : State} {m : MethodId} {c : Code} {Φ : Outcome → State → Prop} {pc : Nat} {L : Array Slot} {S : List Value} (h : At T m c below) (hx : p.tables.exec = Jvm.exec) {i : Int} (v : Int32) (hd : decode c.code pc = .ok (.sipush i, 3)) (hv : (Int16.ofInt i).toInt32 = v) (G : own_Go p e below T (mkF m (pc + 3) L (.int v :: S)) Φ) : own_Go p e below T (mkF m pc L S) Φ := own_by (fun t k => XS.sipush h hx rfl hd (by rw [hv]; exact k)) G
theorem own_s_lconst {p : Program} {e : Env} {below : List Frame} {T : State} {m : MethodId} {c : Code} {Φ : Outcome → State → Prop} {pc : Nat} {L : Array Slot} {S : List Value} (h : At T m c below) (hx : p.tables.exec = Jvm.exec) {i : Fin 2} (v : Int64) (hd : decode c.code pc = .ok (.lconst i, 1)) (hv : Int64.ofNat i = v) (G : own_Go p e below T (mkF m (pc + 1) L (.long v :: S)) Φ) : own_Go p e below T (mkF m pc L S) Φ := own_by (fun t k => XS.lconst h hx rfl hd (by rw [hv]; exact k)) G
theorem own_s_goto {p : Program} {e : Env} {below : List Frame} {T : State} {m : MethodId} {c : Code} {Φ : Outcome → State → Prop} {pc : Nat} {L : Array Slot} {S : List Value} (h : At T m c below) (hx : p.tables.exec = Jvm.exec) {o : Int} (pc' : Nat) (hd : decode c.code pc = .ok (.goto o, 3)) (ho : 0 ≤ (pc : Int) + o) (hp : ((pc : Int) + o).toNat = pc') (G : own_Go p e below T (mkF m pc' L S) Φ) : own_Go p e below T (mkF m pc L S) Φ := own_by (fun t k => XS.goto h hx rfl rfl hd ho hp k) G
theorem own_s_ifYes {p : Program} {e : Env} {below : List Frame} {T : State} {m : MethodId} {c : Code} {Φ : Outcome → State → Prop} {pc : Nat} {L : Array Slot} {S : List Value} (h : At T m c below) (hx : p.tables.exec = Jvm.exec) {cd : ClassFile.Cond} {x : Int32} {o : Int} (pc' : Nat) (hd : decode c.code pc = .ok (.ifCond cd o, 3)) (hc : ifCond.holds cd x = true) (ho : 0 ≤ (pc : Int) + o) (hp : ((pc : Int) + o).toNat = pc') (G : own_Go p e below T (mkF m pc' L S) Φ) : own_Go p e below T (mkF m pc L (.int x :: S)) Φ := own_by (fun t k => XS.ifYes h hx rfl rfl hd rfl hc ho hp k) G
theorem own_s_ifNo {p : Program} {e : Env} {below : List Frame} {T : State} {m : MethodId} {c : Code} {Φ : Outcome → State → Prop} {pc : Nat} {L : Array Slot} {S : List Value} (h : At T m c below) (hx : p.tables.exec = Jvm.exec) {cd : ClassFile.Cond} {x : Int32} {o : Int} (hd : decode c.code pc = .ok (.ifCond cd o, 3)) (hc : ifCond.holds cd x = false) (G : own_Go p e below T (mkF m (pc + 3) L S) Φ) : own_Go p e below T (mkF m pc L (.int x :: S)) Φ := own_by (fun t k => XS.ifNo h hx rfl hd rfl hc k) G
theorem own_s_icmpYes {p : Program} {e : Env} {below : List Frame} {T : State} {m : MethodId} {c : Code} {Φ : Outcome → State → Prop} {pc : Nat} {L : Array Slot} {S : List Value} (h : At T m c below) (hx : p.tables.exec = Jvm.exec) {cd : ClassFile.Cond} {x y : Int32} {o : Int} (pc' : Nat) (hd : decode c.code pc = .ok (.if_icmp cd o, 3)) (hc : if_icmp.holds cd x y = true) (ho : 0 ≤ (pc : Int) + o) (hp : ((pc : Int) + o).toNat = pc') (G : own_Go p e below T (mkF m pc' L S) Φ) : own_Go p e below T (mkF m pc L (.int y :: .int x :: S)) Φ := own_by (fun t k => XS.icmpYes h hx rfl rfl hd rfl hc ho hp k) G
theorem own_s_icmpNo {p : Program} {e : Env} {below : List Frame} {T : State} {m : MethodId} {c : Code} {Φ : Outcome → State → Prop} {pc : Nat} {L : Array Slot} {S : List Value} (h : At T m c below) (hx : p.tables.exec = Jvm.exec) {cd : ClassFile.Cond} {x y : Int32} {o : Int} (hd : decode c.code pc = .ok (.if_icmp cd o, 3)) (hc : if_icmp.holds cd x y = false) (G : own_Go p e below T (mkF m (pc + 3) L S) Φ) : own_Go p e below T (mkF m pc L (.int y :: .int x :: S)) Φ := own_by (fun t k => XS.icmpNo h hx rfl hd rfl hc k) G
theorem own_s_lcmp {p : Program} {e : Env} {below : List Frame} {T : State} {m : MethodId} {c : Code} {Φ : Outcome → State → Prop} {pc : Nat} {L : Array Slot} {S : List Value} (h : At T m c below) (hx : p.tables.exec = Jvm.exec) {x y : Int64} (hd : decode c.code pc = .ok (.lcmp, 1)) (G : own_Go p e below T (mkF m (pc + 1) L (.int (Jvm.Free.XT.cmpL x y) :: S)) Φ) : own_Go p e below T (mkF m pc L (.long y :: .long x :: S)) Φ := own_by (fun t k => Jvm.Free.XT.lcmp h hx rfl hd rfl k) G
theorem own_s_dup {p : Program} {e : Env} {below : List Frame} {T : State} {m : MethodId} {c : Code} {Φ : Outcome → State → Prop} {pc : Nat} {L : Array Slot} {S : List Value} (h : At T m c below) (hx : p.tables.exec = Jvm.exec) {x : Value} (hd : decode c.code pc = .ok (.dup, 1)) (hc : x.category = 1) (G : own_Go p e below T (mkF m (pc + 1) L (x :: x :: S)) Φ) : own_Go p e below T (mkF m pc L (x :: S)) Φ := own_by (fun t k => XS.dup h hx rfl hd rfl hc k) G
theorem own_s_pop {p : Program} {e : Env} {below : List Frame} {T : State} {m : MethodId} {c : Code} {Φ : Outcome → State → Prop} {pc : Nat} {L : Array Slot} {S : List Value} (h : At T m c below) (hx : p.tables.exec = Jvm.exec) {x : Value} (hd : decode c.code pc = .ok (.pop, 1)) (hc : x.category = 1) (G : own_Go p e below T (mkF m (pc + 1) L S) Φ) : own_Go p e below T (mkF m pc L (x :: S)) Φ := own_by (fun t k => XS.pop h hx rfl hd rfl hc k) G

def own_f2 (u0 : Int64) (u1 : Int64) : Int64 := (if u1 < u0 then u1 else u0)
theorem own_d2_0 : decode jdk_29_method_70_code 0 = .ok (.lload_n 0, 1) := by decide +kernel
theorem own_d2_1 : decode jdk_29_method_70_code 1 = .ok (.lload_n 2, 1) := by decide +kernel
theorem own_d2_2 : decode jdk_29_method_70_code 2 = .ok (.lcmp, 1) := by decide +kernel
theorem own_d2_3 : decode jdk_29_method_70_code 3 = .ok (.ifCond .gt 7, 3) := by decide +kernel
theorem own_d2_6 : decode jdk_29_method_70_code 6 = .ok (.lload_n 0, 1) := by decide +kernel
theorem own_d2_7 : decode jdk_29_method_70_code 7 = .ok (.goto 4, 3) := by decide +kernel
theorem own_d2_10 : decode jdk_29_method_70_code 10 = .ok (.lload_n 2, 1) := by decide +kernel
theorem own_d2_11 : decode jdk_29_method_70_code 11 = .ok (.lreturn, 1) := by decide +kernel
theorem own_ef2 (m : MethodId) (u0 : Int64) (u1 : Int64) : entryFrame m #[(.long u0), (.long u1)] 4 = mkF m 0 #[.val (.long u0), .second, .val (.long u1), .second] [] := by first | (simp [entryFrame, mkF, argsToLocals, Value.category]; done) | rfl
def own_q_own_r2 (Z : State) (u0 : Int64) (u1 : Int64) (h0 : Heap) (n0 : Nat) (v : Option Value) (h : Heap) (L : List Loc) : Prop := v = some (.long (own_f2 u0 u1)) ∧ Fr n0 L ∧ h = h0
set_option maxRecDepth 65536 in
set_option maxHeartbeats 40000000 in
theorem own_r2 (l : Launch) (Z : State) (a0 : Array Value) (hw : ∀ d ∈ tables_1, d.before a0 Z = true) (ws : List Jvm.Cond) (u0 : Int64) (u1 : Int64) (h0 : Heap) (n0 : Nat) (Z0 : n0 ≤ h0.size) :
    MetFree l (⟨"java/lang/Math", "min", "(JJ)J"⟩ : MethodName) (head1 (Jvm.Cond.code (⟨"java/lang/Math", "min", "(JJ)J"⟩ : MethodName) jdk_29_method_70_code 4 (some .long) :: ws) ({ frames := 0, cells := 0, slots := 0, locals := 0 } : Room)) (fun a U => a = #[(.long u0), (.long u1)] ∧ Z.Warmed39 U.vm ∧ U.heap = h0) (fun _ _ _ _ _ => True) (fun _ U o U' => ∃ v L, o = .returned v ∧ own_q_own_r2 Z u0 u1 h0 n0 v U'.heap L ∧ FrameEnd U o U' L ({ frames := 0, cells := 0, slots := 0, locals := 0 } : Room).cells ({ frames := 0, cells := 0, slots := 0, locals := 0 } : Room).slots) := by
  refine MetFree.of_bodySF (Jvm.Free.JP.mathPlain rfl (by decide +kernel)) hisR ?_
  intro p e s m args below meth c T0 Bd hml0 hP hK
  obtain ⟨rfl, hZ, hh⟩ := hP
  have hx := Bd.exec
  have hby := Bd.bytes
  have hml : c.maxLocals = 4 := hml0
  have hown : s.vm.findClass "java/lang/Math" = some m.cls := findClass_of_methodNamed Bd.named
  have hnm := (name_of_methodNamed Bd.named Bd.method).1
  have hret : meth.sig.returnType = (some .long) := Bd.returns
  have hlk : meth.locks = false := BodyLoose.notSynchronized Bd
  have X0 : Stand p l e ({ frames := 0, cells := 0, slots := 0, locals := 0 } : Room) s m #[(.long u0), (.long u1)] below meth c T0 [] 0 0 := Stand.of_body Bd
  have e0 : T0.heap = h0 := by rw [← hh, Bd.state]; rfl
  have N0 := Fr.nil n0
  refine own_start (own_ef2 m u0 u1) (Q := fun (v : Option Value) (h : Heap) (L : List Loc) => v = some (.long (own_f2 u0 u1)) ∧ Fr n0 L ∧ h = h0) (k := 0) (j := 0) ?_
  show own_Go p e below T0 (mkF m 0 #[.val (.long u0), .second, .val (.long u1), .second] []) _
  refine own_s_lloadN X0.here hx (hb hby own_d2_0) rfl ?_
  refine own_s_lloadN X0.here hx (hb hby own_d2_1) rfl ?_
  refine own_s_lcmp X0.here hx (hb hby own_d2_2) ?_
  by_cases hc3 : u1 < u0
  ·
    show own_Go p e below T0 (mkF m 3 #[.val (.long u0), .second, .val (.long u1), .second] [(.int (Jvm.Free.XT.cmpL u0 u1))]) _
    refine own_s_ifYes X0.here hx 10 (hb hby own_d2_3) (Jvm.Free.XT.ll_gt_t hc3) (by decide) (by decide) ?_
    refine own_s_lloadN X0.here hx (hb hby own_d2_10) rfl ?_
    refine own_retJ X0 hx hret hlk (hb hby own_d2_11) (by decide) (by decide) ?_
    exact ⟨by unfold own_f2; rw [if_pos hc3], N0, e0⟩
  ·
    refine own_s_ifNo X0.here hx (hb hby own_d2_3) (Jvm.Free.XT.ll_gt_f hc3) ?_
    refine own_s_lloadN X0.here hx (hb hby own_d2_6) rfl ?_
    show own_Go p e below T0 (mkF m 7 #[.val (.long u0), .second, .val (.long u1), .second] [(.long u0)]) _
    refine own_s_goto X0.here hx 11 (hb hby own_d2_7) (by decide) (by decide) ?_
    refine own_retJ X0 hx hret hlk (hb hby own_d2_11) (by decide) (by decide) ?_
    exact ⟨by unfold own_f2; rw [if_neg hc3], N0, e0⟩
def own_f3 (u0 : Int64) (u1 : Int64) : Int64 := (if u0 < u1 then u1 else u0)
theorem own_d3_0 : decode jdk_29_method_66_code 0 = .ok (.lload_n 0, 1) := by decide +kernel
theorem own_d3_1 : decode jdk_29_method_66_code 1 = .ok (.lload_n 2, 1) := by decide +kernel
theorem own_d3_2 : decode jdk_29_method_66_code 2 = .ok (.lcmp, 1) := by decide +kernel
theorem own_d3_3 : decode jdk_29_method_66_code 3 = .ok (.ifCond .lt 7, 3) := by decide +kernel
theorem own_d3_6 : decode jdk_29_method_66_code 6 = .ok (.lload_n 0, 1) := by decide +kernel
theorem own_d3_7 : decode jdk_29_method_66_code 7 = .ok (.goto 4, 3) := by decide +kernel
theorem own_d3_10 : decode jdk_29_method_66_code 10 = .ok (.lload_n 2, 1) := by decide +kernel
theorem own_d3_11 : decode jdk_29_method_66_code 11 = .ok (.lreturn, 1) := by decide +kernel
theorem own_ef3 (m : MethodId) (u0 : Int64) (u1 : Int64) : entryFrame m #[(.long u0), (.long u1)] 4 = mkF m 0 #[.val (.long u0), .second, .val (.long u1), .second] [] := by first | (simp [entryFrame, mkF, argsToLocals, Value.category]; done) | rfl
def own_q_own_r3 (Z : State) (u0 : Int64) (u1 : Int64) (h0 : Heap) (n0 : Nat) (v : Option Value) (h : Heap) (L : List Loc) : Prop := v = some (.long (own_f3 u0 u1)) ∧ Fr n0 L ∧ h = h0
set_option maxRecDepth 65536 in
set_option maxHeartbeats 40000000 in
theorem own_r3 (l : Launch) (Z : State) (a0 : Array Value) (hw : ∀ d ∈ tables_1, d.before a0 Z = true) (ws : List Jvm.Cond) (u0 : Int64) (u1 : Int64) (h0 : Heap) (n0 : Nat) (Z0 : n0 ≤ h0.size) :
    MetFree l (⟨"java/lang/Math", "max", "(JJ)J"⟩ : MethodName) (head1 (Jvm.Cond.code (⟨"java/lang/Math", "max", "(JJ)J"⟩ : MethodName) jdk_29_method_66_code 4 (some .long) :: ws) ({ frames := 0, cells := 0, slots := 0, locals := 0 } : Room)) (fun a U => a = #[(.long u0), (.long u1)] ∧ Z.Warmed39 U.vm ∧ U.heap = h0) (fun _ _ _ _ _ => True) (fun _ U o U' => ∃ v L, o = .returned v ∧ own_q_own_r3 Z u0 u1 h0 n0 v U'.heap L ∧ FrameEnd U o U' L ({ frames := 0, cells := 0, slots := 0, locals := 0 } : Room).cells ({ frames := 0, cells := 0, slots := 0, locals := 0 } : Room).slots) := by
  refine MetFree.of_bodySF (Jvm.Free.JP.mathPlain rfl (by decide +kernel)) hisR ?_
  intro p e s m args below meth c T0 Bd hml0 hP hK
  obtain ⟨rfl, hZ, hh⟩ := hP
  have hx := Bd.exec
  have hby := Bd.bytes
  have hml : c.maxLocals = 4 := hml0
  have hown : s.vm.findClass "java/lang/Math" = some m.cls := findClass_of_methodNamed Bd.named
  have hnm := (name_of_methodNamed Bd.named Bd.method).1
  have hret : meth.sig.returnType = (some .long) := Bd.returns
  have hlk : meth.locks = false := BodyLoose.notSynchronized Bd
  have X0 : Stand p l e ({ frames := 0, cells := 0, slots := 0, locals := 0 } : Room) s m #[(.long u0), (.long u1)] below meth c T0 [] 0 0 := Stand.of_body Bd
  have e0 : T0.heap = h0 := by rw [← hh, Bd.state]; rfl
  have N0 := Fr.nil n0
  refine own_start (own_ef3 m u0 u1) (Q := fun (v : Option Value) (h : Heap) (L : List Loc) => v = some (.long (own_f3 u0 u1)) ∧ Fr n0 L ∧ h = h0) (k := 0) (j := 0) ?_
  show own_Go p e below T0 (mkF m 0 #[.val (.long u0), .second, .val (.long u1), .second] []) _
  refine own_s_lloadN X0.here hx (hb hby own_d3_0) rfl ?_
  refine own_s_lloadN X0.here hx (hb hby own_d3_1) rfl ?_
  refine own_s_lcmp X0.here hx (hb hby own_d3_2) ?_
  by_cases hc3 : u0 < u1
  ·
    show own_Go p e below T0 (mkF m 3 #[.val (.long u0), .second, .val (.long u1), .second] [(.int (Jvm.Free.XT.cmpL u0 u1))]) _
    refine own_s_ifYes X0.here hx 10 (hb hby own_d3_3) (Jvm.Free.XT.ll_lt_t hc3) (by decide) (by decide) ?_
    refine own_s_lloadN X0.here hx (hb hby own_d3_10) rfl ?_
    refine own_retJ X0 hx hret hlk (hb hby own_d3_11) (by decide) (by decide) ?_
    exact ⟨by unfold own_f3; rw [if_pos hc3], N0, e0⟩
  ·
    refine own_s_ifNo X0.here hx (hb hby own_d3_3) (Jvm.Free.XT.ll_lt_f hc3) ?_
    refine own_s_lloadN X0.here hx (hb hby own_d3_6) rfl ?_
    show own_Go p e below T0 (mkF m 7 #[.val (.long u0), .second, .val (.long u1), .second] [(.long u0)]) _
    refine own_s_goto X0.here hx 11 (hb hby own_d3_7) (by decide) (by decide) ?_
    refine own_retJ X0 hx hret hlk (hb hby own_d3_11) (by decide) (by decide) ?_
    exact ⟨by unfold own_f3; rw [if_neg hc3], N0, e0⟩
def own_f1 (u0 : Int64) (u1 : Int64) (u2 : Int32) : Int32 := (if (u0 * (100 : Int64)) < ((u2.toInt64) * u1) then (0 : Int32) else (1 : Int32))
theorem own_d1_0 : decode prog_37_method_2_code 0 = .ok (.lload_n 0, 1) := by decide +kernel
theorem own_d1_1 : decode prog_37_method_2_code 1 = .ok (.ldc2_w 7, 3) := by decide +kernel
theorem own_d1_4 : decode prog_37_method_2_code 4 = .ok (.lmul, 1) := by decide +kernel
theorem own_d1_5 : decode prog_37_method_2_code 5 = .ok (.iload 4, 2) := by decide +kernel
theorem own_d1_7 : decode prog_37_method_2_code 7 = .ok (.i2l, 1) := by decide +kernel
theorem own_d1_8 : decode prog_37_method_2_code 8 = .ok (.lload_n 2, 1) := by decide +kernel
theorem own_d1_9 : decode prog_37_method_2_code 9 = .ok (.lmul, 1) := by decide +kernel
theorem own_d1_10 : decode prog_37_method_2_code 10 = .ok (.lcmp, 1) := by decide +kernel
theorem own_d1_11 : decode prog_37_method_2_code 11 = .ok (.ifCond .lt 7, 3) := by decide +kernel
theorem own_d1_14 : decode prog_37_method_2_code 14 = .ok (.iconst 1, 1) := by decide +kernel
theorem own_d1_15 : decode prog_37_method_2_code 15 = .ok (.goto 4, 3) := by decide +kernel
theorem own_d1_18 : decode prog_37_method_2_code 18 = .ok (.iconst 0, 1) := by decide +kernel
theorem own_d1_19 : decode prog_37_method_2_code 19 = .ok (.ireturn, 1) := by decide +kernel
theorem own_pn_Percent : plainName "com/example/fairlead/fairlead/policy/Percent" = true := by first | (simp [plainName, overriddenIn]; done) | decide +kernel
theorem own_ef1 (m : MethodId) (u0 : Int64) (u1 : Int64) (u2 : Int32) : entryFrame m #[(.long u0), (.long u1), (.int u2)] 5 = mkF m 0 #[.val (.long u0), .second, .val (.long u1), .second, .val (.int u2)] [] := by first | (simp [entryFrame, mkF, argsToLocals, Value.category]; done) | rfl
def own_q_own_r1 (Z : State) (u0 : Int64) (u1 : Int64) (u2 : Int32) (h0 : Heap) (n0 : Nat) (v : Option Value) (h : Heap) (L : List Loc) : Prop := v = some (.int (own_f1 u0 u1 u2)) ∧ Fr n0 L ∧ h = h0
set_option maxRecDepth 65536 in
set_option maxHeartbeats 40000000 in
theorem own_r1 (l : Launch) (Z : State) (a0 : Array Value) (hw : ∀ d ∈ tables_1, d.before a0 Z = true) (ws : List Jvm.Cond) (u0 : Int64) (u1 : Int64) (u2 : Int32) (h0 : Heap) (n0 : Nat) (Z0 : n0 ≤ h0.size) :
    MetFree l (⟨"com/example/fairlead/fairlead/policy/Percent", "reaches", "(JJI)Z"⟩ : MethodName) (head1 (Jvm.Cond.code (⟨"com/example/fairlead/fairlead/policy/Percent", "reaches", "(JJI)Z"⟩ : MethodName) prog_37_method_2_code 5 (some .boolean) :: ws) ({ frames := 0, cells := 0, slots := 0, locals := 0 } : Room)) (fun a U => a = #[(.long u0), (.long u1), (.int u2)] ∧ Z.Warmed39 U.vm ∧ U.heap = h0) (fun _ _ _ _ _ => True) (fun _ U o U' => ∃ v L, o = .returned v ∧ own_q_own_r1 Z u0 u1 u2 h0 n0 v U'.heap L ∧ FrameEnd U o U' L ({ frames := 0, cells := 0, slots := 0, locals := 0 } : Room).cells ({ frames := 0, cells := 0, slots := 0, locals := 0 } : Room).slots) := by
  refine MetFree.of_bodySF (plainFor_of_name own_pn_Percent) hisR ?_
  intro p e s m args below meth c T0 Bd hml0 hP hK
  obtain ⟨rfl, hZ, hh⟩ := hP
  have hx := Bd.exec
  have hby := Bd.bytes
  have hml : c.maxLocals = 5 := hml0
  have hown : s.vm.findClass "com/example/fairlead/fairlead/policy/Percent" = some m.cls := findClass_of_methodNamed Bd.named
  have hnm := (name_of_methodNamed Bd.named Bd.method).1
  have hret : meth.sig.returnType = (some .boolean) := Bd.returns
  have hlk : meth.locks = false := BodyLoose.notSynchronized Bd
  have X0 : Stand p l e ({ frames := 0, cells := 0, slots := 0, locals := 0 } : Room) s m #[(.long u0), (.long u1), (.int u2)] below meth c T0 [] 0 0 := Stand.of_body Bd
  have e0 : T0.heap = h0 := by rw [← hh, Bd.state]; rfl
  have N0 := Fr.nil n0
  refine own_start (own_ef1 m u0 u1 u2) (Q := fun (v : Option Value) (h : Heap) (L : List Loc) => v = some (.int (own_f1 u0 u1 u2)) ∧ Fr n0 L ∧ h = h0) (k := 0) (j := 0) ?_
  show own_Go p e below T0 (mkF m 0 #[.val (.long u0), .second, .val (.long u1), .second, .val (.int u2)] []) _
  refine own_s_lloadN X0.here hx (hb hby own_d1_0) rfl ?_
  refine own_by (fun t k => X0.ldc2Long hx hown (mvT hZ (hw _ (List.mem_of_getElem? (i := 9) rfl))) (g := (mkF m 1 #[.val (.long u0), .second, .val (.long u1), .second, .val (.int u2)] [(.long u0)])) rfl (hb hby own_d1_1) t k) ?_
  show own_Go p e below T0 (mkF m 4 #[.val (.long u0), .second, .val (.long u1), .second, .val (.int u2)] [(.long (100 : Int64)), (.long u0)]) _
  refine own_s_lmul X0.here hx (hb hby own_d1_4) ?_
  refine own_s_iload X0.here hx (hb hby own_d1_5) rfl ?_
  refine own_s_i2l X0.here hx (hb hby own_d1_7) ?_
  refine own_s_lloadN X0.here hx (hb hby own_d1_8) rfl ?_
  refine own_s_lmul X0.here hx (hb hby own_d1_9) ?_
  refine own_s_lcmp X0.here hx (hb hby own_d1_10) ?_
  by_cases hc11 : (u0 * (100 : Int64)) < ((u2.toInt64) * u1)
  ·
    show own_Go p e below T0 (mkF m 11 #[.val (.long u0), .second, .val (.long u1), .second, .val (.int u2)] [(.int (Jvm.Free.XT.cmpL (u0 * (100 : Int64)) ((u2.toInt64) * u1)))]) _
    refine own_s_ifYes X0.here hx 18 (hb hby own_d1_11) (Jvm.Free.XT.ll_lt_t hc11) (by decide) (by decide) ?_
    refine own_s_iconst X0.here hx (0 : Int32) (hb hby own_d1_18) rfl ?_
    refine own_retZ X0 hx hret hlk (hb hby own_d1_19) rfl (by decide) (by decide) ?_
    exact ⟨by unfold own_f1; rw [if_pos hc11], N0, e0⟩
  ·
    refine own_s_ifNo X0.here hx (hb hby own_d1_11) (Jvm.Free.XT.ll_lt_f hc11) ?_
    refine own_s_iconst X0.here hx (1 : Int32) (hb hby own_d1_14) rfl ?_
    show own_Go p e below T0 (mkF m 15 #[.val (.long u0), .second, .val (.long u1), .second, .val (.int u2)] [(.int (1 : Int32))]) _
    refine own_s_goto X0.here hx 19 (hb hby own_d1_15) (by decide) (by decide) ?_
    refine own_retZ X0 hx hret hlk (hb hby own_d1_19) rfl (by decide) (by decide) ?_
    exact ⟨by unfold own_f1; rw [if_neg hc11], N0, e0⟩
theorem own_wb (w : Int64) : 0 ≤ ((w &&& (9223372036854775807 : Int64)) % ((92233720368547758 : Int64) + (1 : Int64))).toInt ∧ ((w &&& (9223372036854775807 : Int64)) % ((92233720368547758 : Int64) + (1 : Int64))).toInt ≤ 92233720368547758 := by
  have e1 : (w &&& (9223372036854775807 : Int64)).toInt = w.toInt % 2 ^ 63 := Jvm.Kit.i64_mask w _ (k := 63) (by decide) (by decide)
  rw [← own_lrem_eq, Jvm.Kit.i64_rem_nonneg (by omega), show ((92233720368547758 : Int64) + (1 : Int64)).toInt = 92233720368547759 from by decide]
  omega
theorem own_pb (z : Int32) : 0 ≤ ((z &&& (2147483647 : Int32)) % (101 : Int32)).toInt ∧ ((z &&& (2147483647 : Int32)) % (101 : Int32)).toInt ≤ 100 := by
  have e1 : (z &&& (2147483647 : Int32)).toInt = z.toInt % 2 ^ 31 := Jvm.Kit.i32_mask z _ (k := 31) (by decide) (by decide)
  rw [Jvm.Kit.i32_rem_nonneg (by omega), show (101 : Int32).toInt = 101 from by decide]
  omega
theorem own_mm (t : Int64) : 0 ≤ (own_f3 (0 : Int64) (own_f2 (92233720368547758 : Int64) t)).toInt ∧ (own_f3 (0 : Int64) (own_f2 (92233720368547758 : Int64) t)).toInt ≤ 92233720368547758 := by
  unfold own_f3 own_f2
  simp only [Int64.lt_iff_toInt_lt, Int64.reduceToInt]
  repeat' split
  all_goals (first | omega | (simp only [Int64.reduceToInt] at *; omega))
theorem own_t (w : Int64) (pc : Int32) (hw0 : 0 ≤ w.toInt) (hw1 : w.toInt ≤ 92233720368547758) (hp0 : 0 ≤ pc.toInt) (hp1 : pc.toInt ≤ 100) :
    (pc.toInt64 * (w / (100 : Int64)) + (pc.toInt64 * (w % (100 : Int64)) + (99 : Int64)) / (100 : Int64)).toInt = pc.toInt * (w.toInt / 100) + (pc.toInt * (w.toInt % 100) + 99) / 100 := by
  have c1 : (100 : Int64).toInt = 100 := by decide
  have c2 : (99 : Int64).toInt = 99 := by decide
  have e1 : (w / (100 : Int64)).toInt = w.toInt / 100 := by
    rw [Jvm.Kit.i64_div (by rw [c1]; omega), c1, Int.tdiv_eq_ediv_of_nonneg hw0]
  have e2 : (w % (100 : Int64)).toInt = w.toInt % 100 := by
    rw [← own_lrem_eq, Jvm.Kit.i64_rem_nonneg hw0, c1]
  have e3 : pc.toInt64.toInt = pc.toInt := Jvm.Kit.i64_of_i32 pc
  have m1 : pc.toInt * (w.toInt / 100) ≤ 100 * (w.toInt / 100) := Int.mul_le_mul_of_nonneg_right hp1 (by omega)
  have m2 : 0 ≤ pc.toInt * (w.toInt / 100) := Int.mul_nonneg hp0 (by omega)
  have m3 : pc.toInt * (w.toInt % 100) ≤ 100 * (w.toInt % 100) := Int.mul_le_mul_of_nonneg_right hp1 (by omega)
  have m4 : 0 ≤ pc.toInt * (w.toInt % 100) := Int.mul_nonneg hp0 (by omega)
  have e4 : (pc.toInt64 * (w / (100 : Int64))).toInt = pc.toInt * (w.toInt / 100) := by
    rw [Jvm.Kit.i64_mul (by rw [e3, e1]; omega) (by rw [e3, e1]; omega), e3, e1]
  have e5 : (pc.toInt64 * (w % (100 : Int64))).toInt = pc.toInt * (w.toInt % 100) := by
    rw [Jvm.Kit.i64_mul (by rw [e3, e2]; omega) (by rw [e3, e2]; omega), e3, e2]
  have e6 : (pc.toInt64 * (w % (100 : Int64)) + (99 : Int64)).toInt = pc.toInt * (w.toInt % 100) + 99 := by
    rw [Jvm.Kit.i64_add (by rw [e5, c2]; omega) (by rw [e5, c2]; omega), e5, c2]
  have e7 : ((pc.toInt64 * (w % (100 : Int64)) + (99 : Int64)) / (100 : Int64)).toInt = (pc.toInt * (w.toInt % 100) + 99) / 100 := by
    rw [Jvm.Kit.i64_div (by rw [c1]; omega), c1, e6, Int.tdiv_eq_ediv_of_nonneg (by omega)]
  rw [Jvm.Kit.i64_add (by rw [e4, e7]; omega) (by rw [e4, e7]; omega), e4, e7]
theorem own_reach (pt w : Int64) (pc : Int32) (hw0 : 0 ≤ w.toInt) (hw1 : w.toInt ≤ 92233720368547758) (hp0 : 0 ≤ pc.toInt) (hp1 : pc.toInt ≤ 100) (hq0 : 0 ≤ pt.toInt) (hq1 : pt.toInt ≤ 92233720368547758) :
    pt * (100 : Int64) < pc.toInt64 * w ↔ pt < (pc.toInt64 * (w / (100 : Int64)) + (pc.toInt64 * (w % (100 : Int64)) + (99 : Int64)) / (100 : Int64)) := by
  have c1 : (100 : Int64).toInt = 100 := by decide
  have e3 : pc.toInt64.toInt = pc.toInt := Jvm.Kit.i64_of_i32 pc
  have m1 : pc.toInt * w.toInt ≤ 100 * w.toInt := Int.mul_le_mul_of_nonneg_right hp1 hw0
  have m2 : 0 ≤ pc.toInt * w.toInt := Int.mul_nonneg hp0 hw0
  have e4 : (pt * (100 : Int64)).toInt = pt.toInt * 100 := by
    rw [Jvm.Kit.i64_mul (by rw [c1]; omega) (by rw [c1]; omega), c1]
  have e5 : (pc.toInt64 * w).toInt = pc.toInt * w.toInt := by
    rw [Jvm.Kit.i64_mul (by rw [e3]; omega) (by rw [e3]; omega), e3]
  rw [Int64.lt_iff_toInt_lt, Int64.lt_iff_toInt_lt, own_t w pc hw0 hw1 hp0 hp1, e4, e5]
  have d : pc.toInt * w.toInt = 100 * (pc.toInt * (w.toInt / 100)) + pc.toInt * (w.toInt % 100) := by
    have : w.toInt = 100 * (w.toInt / 100) + w.toInt % 100 := by omega
    rw [← Int.mul_assoc, Int.mul_comm 100 pc.toInt, Int.mul_assoc, ← Int.mul_add, ← this]
  rw [d]
  generalize pc.toInt * (w.toInt / 100) = A
  generalize pc.toInt * (w.toInt % 100) = B
  omega
theorem own_pn_PercentReachesPinLaw : plainName "com/example/fairlead/fairlead/policy/PercentReachesPinLaw" = true := by first | (simp [plainName, overriddenIn]; done) | decide +kernel
theorem own_ml : maxLocals = 22 := rfl
theorem own_ef0 (m : MethodId) (p0 : Int64) (w0 : Int64) (c0 : Int32) (d0 : Int32) (m0 : Int32) : entryFrame m #[(.long p0), (.long w0), (.int c0), (.int d0), (.int m0)] maxLocals = mkF m 0 #[.val (.long p0), .second, .val (.long w0), .second, .val (.int c0), .val (.int d0), .val (.int m0), .unset, .unset, .unset, .unset, .unset, .unset, .unset, .unset, .unset, .unset, .unset, .unset, .unset, .unset, .unset] [] := by first | (simp [entryFrame, mkF, argsToLocals, Value.category, maxLocals]; done) | rfl
theorem own_pd_0 : parseMethodDescriptor "(JJI)Z" = some ⟨[.long, .long, .int], some .boolean⟩ := by decide +kernel
theorem own_pd_1 : parseMethodDescriptor "(JJ)J" = some ⟨[.long, .long], some .long⟩ := by decide +kernel
def own_q_own_r0 (Z : State) (p0 : Int64) (w0 : Int64) (c0 : Int32) (d0 : Int32) (m0 : Int32) (h0 : Heap) (n0 : Nat) (v : Option Value) (h : Heap) (L : List Loc) : Prop := v = some (.int 1) ∧ Fr n0 L
set_option maxRecDepth 65536 in
set_option maxHeartbeats 40000000 in
theorem own_r0 (l : Launch) (Z : State) (a0 : Array Value) (hw : ∀ d ∈ tables_1, d.before a0 Z = true) (ws : List Jvm.Cond) (p0 : Int64) (w0 : Int64) (c0 : Int32) (d0 : Int32) (m0 : Int32) (h0 : Heap) (n0 : Nat) (Z0 : n0 ≤ h0.size) :
    MetFree l x (head1 (Jvm.Cond.code x code maxLocals ret :: ws) room_1) (fun a U => a = #[(.long p0), (.long w0), (.int c0), (.int d0), (.int m0)] ∧ Z.Warmed39 U.vm ∧ U.heap = h0) (fun _ _ _ _ _ => True) (fun _ U o U' => ∃ v L, o = .returned v ∧ own_q_own_r0 Z p0 w0 c0 d0 m0 h0 n0 v U'.heap L ∧ FrameEnd U o U' L 0 0) := by
  refine MetFree.of_bodySF (plainFor_of_name own_pn_PercentReachesPinLaw) hisR ?_
  intro p e s m args below meth c T0 Bd hml0 hP hK
  obtain ⟨rfl, hZ, hh⟩ := hP
  have hx := Bd.exec
  have hby := Bd.bytes
  have hml : c.maxLocals = 22 := hml0
  have hown : s.vm.findClass "com/example/fairlead/fairlead/policy/PercentReachesPinLaw" = some m.cls := findClass_of_methodNamed Bd.named
  have hnm := (name_of_methodNamed Bd.named Bd.method).1
  have hret : meth.sig.returnType = (some .boolean) := Bd.returns
  have hlk : meth.locks = false := BodyLoose.notSynchronized Bd
  have X0 : Stand p l e room_1 s m #[(.long p0), (.long w0), (.int c0), (.int d0), (.int m0)] below meth c T0 [] 0 0 := Stand.of_body Bd
  have e0 : T0.heap = h0 := by rw [← hh, Bd.state]; rfl
  have N0 := Fr.nil n0
  refine own_start (own_ef0 m p0 w0 c0 d0 m0) (Q := fun (v : Option Value) (h : Heap) (L : List Loc) => v = some (.int 1) ∧ Fr n0 L) (k := 0) (j := 0) ?_
  show own_Go p e below T0 (mkF m 0 #[.val (.long p0), .second, .val (.long w0), .second, .val (.int c0), .val (.int d0), .val (.int m0), .unset, .unset, .unset, .unset, .unset, .unset, .unset, .unset, .unset, .unset, .unset, .unset, .unset, .unset, .unset] []) _
  refine own_by (fun t k => X0.ldc2Long hx hown (mvT hZ (hw _ (List.mem_of_getElem? (i := 0) rfl))) (g := (mkF m 0 #[.val (.long p0), .second, .val (.long w0), .second, .val (.int c0), .val (.int d0), .val (.int m0), .unset, .unset, .unset, .unset, .unset, .unset, .unset, .unset, .unset, .unset, .unset, .unset, .unset, .unset, .unset] [])) rfl (hb hby at_0) t k) ?_
  show own_Go p e below T0 (mkF m 3 #[.val (.long p0), .second, .val (.long w0), .second, .val (.int c0), .val (.int d0), .val (.int m0), .unset, .unset, .unset, .unset, .unset, .unset, .unset, .unset, .unset, .unset, .unset, .unset, .unset, .unset, .unset] [(.long (92233720368547758 : Int64))]) _
  refine own_s_lstore X0.here hx #[.val (.long p0), .second, .val (.long w0), .second, .val (.int c0), .val (.int d0), .val (.int m0), .val (.long (92233720368547758 : Int64)), .second, .unset, .unset, .unset, .unset, .unset, .unset, .unset, .unset, .unset, .unset, .unset, .unset, .unset] (hb hby at_3) rfl ?_
  refine own_s_lloadN X0.here hx (hb hby at_5) rfl ?_
  refine own_by (fun t k => X0.ldc2Long hx hown (mvT hZ (hw _ (List.mem_of_getElem? (i := 1) rfl))) (g := (mkF m 6 #[.val (.long p0), .second, .val (.long w0), .second, .val (.int c0), .val (.int d0), .val (.int m0), .val (.long (92233720368547758 : Int64)), .second, .unset, .unset, .unset, .unset, .unset, .unset, .unset, .unset, .unset, .unset, .unset, .unset, .unset] [(.long w0)])) rfl (hb hby at_6) t k) ?_
  show own_Go p e below T0 (mkF m 9 #[.val (.long p0), .second, .val (.long w0), .second, .val (.int c0), .val (.int d0), .val (.int m0), .val (.long (92233720368547758 : Int64)), .second, .unset, .unset, .unset, .unset, .unset, .unset, .unset, .unset, .unset, .unset, .unset, .unset, .unset] [(.long (9223372036854775807 : Int64)), (.long w0)]) _
  refine own_s_land X0.here hx (hb hby at_9) ?_
  refine own_s_lload X0.here hx (hb hby at_10) rfl ?_
  refine own_s_lconst X0.here hx (1 : Int64) (hb hby at_12) rfl ?_
  refine own_s_ladd X0.here hx (hb hby at_13) ?_
  refine own_by (fun t k => own_lrem X0 hx rfl (hb hby at_14) rfl (by decide) k) ?_
  show own_Go p e below T0 (mkF m 15 #[.val (.long p0), .second, .val (.long w0), .second, .val (.int c0), .val (.int d0), .val (.int m0), .val (.long (92233720368547758 : Int64)), .second, .unset, .unset, .unset, .unset, .unset, .unset, .unset, .unset, .unset, .unset, .unset, .unset, .unset] [(.long ((w0 &&& (9223372036854775807 : Int64)) % ((92233720368547758 : Int64) + (1 : Int64))))]) _
  refine own_s_lstore X0.here hx #[.val (.long p0), .second, .val (.long w0), .second, .val (.int c0), .val (.int d0), .val (.int m0), .val (.long (92233720368547758 : Int64)), .second, .val (.long ((w0 &&& (9223372036854775807 : Int64)) % ((92233720368547758 : Int64) + (1 : Int64)))), .second, .unset, .unset, .unset, .unset, .unset, .unset, .unset, .unset, .unset, .unset, .unset] (hb hby at_15) rfl ?_
  generalize hwh : ((w0 &&& (9223372036854775807 : Int64)) % ((92233720368547758 : Int64) + (1 : Int64))) = wh
  show own_Go p e below T0 (mkF m 17 #[.val (.long p0), .second, .val (.long w0), .second, .val (.int c0), .val (.int d0), .val (.int m0), .val (.long (92233720368547758 : Int64)), .second, .val (.long wh), .second, .unset, .unset, .unset, .unset, .unset, .unset, .unset, .unset, .unset, .unset, .unset] []) _
  have hwb := own_wb w0
  rw [hwh] at hwb
  refine own_s_iload X0.here hx (hb hby at_17) rfl ?_
  refine own_by (fun t k => X0.ldcInt hx hown (mvT hZ (hw _ (List.mem_of_getElem? (i := 2) rfl))) (g := (mkF m 19 #[.val (.long p0), .second, .val (.long w0), .second, .val (.int c0), .val (.int d0), .val (.int m0), .val (.long (92233720368547758 : Int64)), .second, .val (.long wh), .second, .unset, .unset, .unset, .unset, .unset, .unset, .unset, .unset, .unset, .unset, .unset] [(.int c0)])) rfl (hb hby at_19) t k) ?_
  show own_Go p e below T0 (mkF m 21 #[.val (.long p0), .second, .val (.long w0), .second, .val (.int c0), .val (.int d0), .val (.int m0), .val (.long (92233720368547758 : Int64)), .second, .val (.long wh), .second, .unset, .unset, .unset, .unset, .unset, .unset, .unset, .unset, .unset, .unset, .unset] [(.int (2147483647 : Int32)), (.int c0)]) _
  refine own_s_iand X0.here hx (hb hby at_21) ?_
  refine own_s_bipush X0.here hx (101 : Int32) (hb hby at_22) rfl ?_
  refine own_by (fun t k => iremM X0 hx rfl (hb hby at_24) rfl (by decide) k) ?_
  show own_Go p e below T0 (mkF m 25 #[.val (.long p0), .second, .val (.long w0), .second, .val (.int c0), .val (.int d0), .val (.int m0), .val (.long (92233720368547758 : Int64)), .second, .val (.long wh), .second, .unset, .unset, .unset, .unset, .unset, .unset, .unset, .unset, .unset, .unset, .unset] [(.int ((c0 &&& (2147483647 : Int32)) % (101 : Int32)))]) _
  refine own_s_istore X0.here hx #[.val (.long p0), .second, .val (.long w0), .second, .val (.int c0), .val (.int d0), .val (.int m0), .val (.long (92233720368547758 : Int64)), .second, .val (.long wh), .second, .val (.int ((c0 &&& (2147483647 : Int32)) % (101 : Int32))), .unset, .unset, .unset, .unset, .unset, .unset, .unset, .unset, .unset, .unset] (hb hby at_25) rfl ?_
  generalize hpn : ((c0 &&& (2147483647 : Int32)) % (101 : Int32)) = pn
  show own_Go p e below T0 (mkF m 27 #[.val (.long p0), .second, .val (.long w0), .second, .val (.int c0), .val (.int d0), .val (.int m0), .val (.long (92233720368547758 : Int64)), .second, .val (.long wh), .second, .val (.int pn), .unset, .unset, .unset, .unset, .unset, .unset, .unset, .unset, .unset, .unset] []) _
  have hpb := own_pb c0
  rw [hpn] at hpb
  refine own_s_lload X0.here hx (hb hby at_27) rfl ?_
  refine own_by (fun t k => X0.ldc2Long hx hown (mvT hZ (hw _ (List.mem_of_getElem? (i := 3) rfl))) (g := (mkF m 29 #[.val (.long p0), .second, .val (.long w0), .second, .val (.int c0), .val (.int d0), .val (.int m0), .val (.long (92233720368547758 : Int64)), .second, .val (.long wh), .second, .val (.int pn), .unset, .unset, .unset, .unset, .unset, .unset, .unset, .unset, .unset, .unset] [(.long wh)])) rfl (hb hby at_29) t k) ?_
  show own_Go p e below T0 (mkF m 32 #[.val (.long p0), .second, .val (.long w0), .second, .val (.int c0), .val (.int d0), .val (.int m0), .val (.long (92233720368547758 : Int64)), .second, .val (.long wh), .second, .val (.int pn), .unset, .unset, .unset, .unset, .unset, .unset, .unset, .unset, .unset, .unset] [(.long (100 : Int64)), (.long wh)]) _
  refine own_by (fun t k => XS.ldiv X0.here hx rfl (hb hby at_32) rfl (by decide) k) ?_
  show own_Go p e below T0 (mkF m 33 #[.val (.long p0), .second, .val (.long w0), .second, .val (.int c0), .val (.int d0), .val (.int m0), .val (.long (92233720368547758 : Int64)), .second, .val (.long wh), .second, .val (.int pn), .unset, .unset, .unset, .unset, .unset, .unset, .unset, .unset, .unset, .unset] [(.long (wh / (100 : Int64)))]) _
  refine own_s_lstore X0.here hx #[.val (.long p0), .second, .val (.long w0), .second, .val (.int c0), .val (.int d0), .val (.int m0), .val (.long (92233720368547758 : Int64)), .second, .val (.long wh), .second, .val (.int pn), .val (.long (wh / (100 : Int64))), .second, .unset, .unset, .unset, .unset, .unset, .unset, .unset, .unset] (hb hby at_33) rfl ?_
  refine own_s_lload X0.here hx (hb hby at_35) rfl ?_
  refine own_by (fun t k => X0.ldc2Long hx hown (mvT hZ (hw _ (List.mem_of_getElem? (i := 3) rfl))) (g := (mkF m 37 #[.val (.long p0), .second, .val (.long w0), .second, .val (.int c0), .val (.int d0), .val (.int m0), .val (.long (92233720368547758 : Int64)), .second, .val (.long wh), .second, .val (.int pn), .val (.long (wh / (100 : Int64))), .second, .unset, .unset, .unset, .unset, .unset, .unset, .unset, .unset] [(.long wh)])) rfl (hb hby at_37) t k) ?_
  show own_Go p e below T0 (mkF m 40 #[.val (.long p0), .second, .val (.long w0), .second, .val (.int c0), .val (.int d0), .val (.int m0), .val (.long (92233720368547758 : Int64)), .second, .val (.long wh), .second, .val (.int pn), .val (.long (wh / (100 : Int64))), .second, .unset, .unset, .unset, .unset, .unset, .unset, .unset, .unset] [(.long (100 : Int64)), (.long wh)]) _
  refine own_by (fun t k => own_lrem X0 hx rfl (hb hby at_40) rfl (by decide) k) ?_
  show own_Go p e below T0 (mkF m 41 #[.val (.long p0), .second, .val (.long w0), .second, .val (.int c0), .val (.int d0), .val (.int m0), .val (.long (92233720368547758 : Int64)), .second, .val (.long wh), .second, .val (.int pn), .val (.long (wh / (100 : Int64))), .second, .unset, .unset, .unset, .unset, .unset, .unset, .unset, .unset] [(.long (wh % (100 : Int64)))]) _
  refine own_s_lstore X0.here hx #[.val (.long p0), .second, .val (.long w0), .second, .val (.int c0), .val (.int d0), .val (.int m0), .val (.long (92233720368547758 : Int64)), .second, .val (.long wh), .second, .val (.int pn), .val (.long (wh / (100 : Int64))), .second, .val (.long (wh % (100 : Int64))), .second, .unset, .unset, .unset, .unset, .unset, .unset] (hb hby at_41) rfl ?_
  refine own_s_iload X0.here hx (hb hby at_43) rfl ?_
  refine own_s_i2l X0.here hx (hb hby at_45) ?_
  refine own_s_lload X0.here hx (hb hby at_46) rfl ?_
  refine own_s_lmul X0.here hx (hb hby at_48) ?_
  refine own_s_iload X0.here hx (hb hby at_49) rfl ?_
  refine own_s_i2l X0.here hx (hb hby at_51) ?_
  refine own_s_lload X0.here hx (hb hby at_52) rfl ?_
  refine own_s_lmul X0.here hx (hb hby at_54) ?_
  refine own_by (fun t k => X0.ldc2Long hx hown (mvT hZ (hw _ (List.mem_of_getElem? (i := 4) rfl))) (g := (mkF m 55 #[.val (.long p0), .second, .val (.long w0), .second, .val (.int c0), .val (.int d0), .val (.int m0), .val (.long (92233720368547758 : Int64)), .second, .val (.long wh), .second, .val (.int pn), .val (.long (wh / (100 : Int64))), .second, .val (.long (wh % (100 : Int64))), .second, .unset, .unset, .unset, .unset, .unset, .unset] [(.long ((pn.toInt64) * (wh % (100 : Int64)))), (.long ((pn.toInt64) * (wh / (100 : Int64))))])) rfl (hb hby at_55) t k) ?_
  show own_Go p e below T0 (mkF m 58 #[.val (.long p0), .second, .val (.long w0), .second, .val (.int c0), .val (.int d0), .val (.int m0), .val (.long (92233720368547758 : Int64)), .second, .val (.long wh), .second, .val (.int pn), .val (.long (wh / (100 : Int64))), .second, .val (.long (wh % (100 : Int64))), .second, .unset, .unset, .unset, .unset, .unset, .unset] [(.long (99 : Int64)), (.long ((pn.toInt64) * (wh % (100 : Int64)))), (.long ((pn.toInt64) * (wh / (100 : Int64))))]) _
  refine own_s_ladd X0.here hx (hb hby at_58) ?_
  refine own_by (fun t k => X0.ldc2Long hx hown (mvT hZ (hw _ (List.mem_of_getElem? (i := 3) rfl))) (g := (mkF m 59 #[.val (.long p0), .second, .val (.long w0), .second, .val (.int c0), .val (.int d0), .val (.int m0), .val (.long (92233720368547758 : Int64)), .second, .val (.long wh), .second, .val (.int pn), .val (.long (wh / (100 : Int64))), .second, .val (.long (wh % (100 : Int64))), .second, .unset, .unset, .unset, .unset, .unset, .unset] [(.long (((pn.toInt64) * (wh % (100 : Int64))) + (99 : Int64))), (.long ((pn.toInt64) * (wh / (100 : Int64))))])) rfl (hb hby at_59) t k) ?_
  show own_Go p e below T0 (mkF m 62 #[.val (.long p0), .second, .val (.long w0), .second, .val (.int c0), .val (.int d0), .val (.int m0), .val (.long (92233720368547758 : Int64)), .second, .val (.long wh), .second, .val (.int pn), .val (.long (wh / (100 : Int64))), .second, .val (.long (wh % (100 : Int64))), .second, .unset, .unset, .unset, .unset, .unset, .unset] [(.long (100 : Int64)), (.long (((pn.toInt64) * (wh % (100 : Int64))) + (99 : Int64))), (.long ((pn.toInt64) * (wh / (100 : Int64))))]) _
  refine own_by (fun t k => XS.ldiv X0.here hx rfl (hb hby at_62) rfl (by decide) k) ?_
  show own_Go p e below T0 (mkF m 63 #[.val (.long p0), .second, .val (.long w0), .second, .val (.int c0), .val (.int d0), .val (.int m0), .val (.long (92233720368547758 : Int64)), .second, .val (.long wh), .second, .val (.int pn), .val (.long (wh / (100 : Int64))), .second, .val (.long (wh % (100 : Int64))), .second, .unset, .unset, .unset, .unset, .unset, .unset] [(.long ((((pn.toInt64) * (wh % (100 : Int64))) + (99 : Int64)) / (100 : Int64))), (.long ((pn.toInt64) * (wh / (100 : Int64))))]) _
  refine own_s_ladd X0.here hx (hb hby at_63) ?_
  refine own_s_lstore X0.here hx #[.val (.long p0), .second, .val (.long w0), .second, .val (.int c0), .val (.int d0), .val (.int m0), .val (.long (92233720368547758 : Int64)), .second, .val (.long wh), .second, .val (.int pn), .val (.long (wh / (100 : Int64))), .second, .val (.long (wh % (100 : Int64))), .second, .val (.long (((pn.toInt64) * (wh / (100 : Int64))) + ((((pn.toInt64) * (wh % (100 : Int64))) + (99 : Int64)) / (100 : Int64)))), .second, .unset, .unset, .unset, .unset] (hb hby at_64) rfl ?_
  refine own_s_iload X0.here hx (hb hby at_66) rfl ?_
  refine own_s_iconst X0.here hx (1 : Int32) (hb hby at_68) rfl ?_
  refine own_s_iand X0.here hx (hb hby at_69) ?_
  by_cases hc70 : (m0 &&& (1 : Int32)) = 0
  ·
    show own_Go p e below T0 (mkF m 70 #[.val (.long p0), .second, .val (.long w0), .second, .val (.int c0), .val (.int d0), .val (.int m0), .val (.long (92233720368547758 : Int64)), .second, .val (.long wh), .second, .val (.int pn), .val (.long (wh / (100 : Int64))), .second, .val (.long (wh % (100 : Int64))), .second, .val (.long (((pn.toInt64) * (wh / (100 : Int64))) + ((((pn.toInt64) * (wh % (100 : Int64))) + (99 : Int64)) / (100 : Int64)))), .second, .unset, .unset, .unset, .unset] [(.int (m0 &&& (1 : Int32)))]) _
    refine own_s_ifYes X0.here hx 106 (hb hby at_70) (Jvm.Free.XT.i0_eq_t hc70) (by decide) (by decide) ?_
    refine own_s_lloadN X0.here hx (hb hby at_106) rfl ?_
    refine own_by (fun t k => X0.ldc2Long hx hown (mvT hZ (hw _ (List.mem_of_getElem? (i := 1) rfl))) (g := (mkF m 107 #[.val (.long p0), .second, .val (.long w0), .second, .val (.int c0), .val (.int d0), .val (.int m0), .val (.long (92233720368547758 : Int64)), .second, .val (.long wh), .second, .val (.int pn), .val (.long (wh / (100 : Int64))), .second, .val (.long (wh % (100 : Int64))), .second, .val (.long (((pn.toInt64) * (wh / (100 : Int64))) + ((((pn.toInt64) * (wh % (100 : Int64))) + (99 : Int64)) / (100 : Int64)))), .second, .unset, .unset, .unset, .unset] [(.long p0)])) rfl (hb hby at_107) t k) ?_
    show own_Go p e below T0 (mkF m 110 #[.val (.long p0), .second, .val (.long w0), .second, .val (.int c0), .val (.int d0), .val (.int m0), .val (.long (92233720368547758 : Int64)), .second, .val (.long wh), .second, .val (.int pn), .val (.long (wh / (100 : Int64))), .second, .val (.long (wh % (100 : Int64))), .second, .val (.long (((pn.toInt64) * (wh / (100 : Int64))) + ((((pn.toInt64) * (wh % (100 : Int64))) + (99 : Int64)) / (100 : Int64)))), .second, .unset, .unset, .unset, .unset] [(.long (9223372036854775807 : Int64)), (.long p0)]) _
    refine own_s_land X0.here hx (hb hby at_110) ?_
    refine own_s_lload X0.here hx (hb hby at_111) rfl ?_
    refine own_s_lconst X0.here hx (1 : Int64) (hb hby at_113) rfl ?_
    refine own_s_ladd X0.here hx (hb hby at_114) ?_
    refine own_by (fun t k => own_lrem X0 hx rfl (hb hby at_115) rfl (by decide) k) ?_
    show own_Go p e below T0 (mkF m 116 #[.val (.long p0), .second, .val (.long w0), .second, .val (.int c0), .val (.int d0), .val (.int m0), .val (.long (92233720368547758 : Int64)), .second, .val (.long wh), .second, .val (.int pn), .val (.long (wh / (100 : Int64))), .second, .val (.long (wh % (100 : Int64))), .second, .val (.long (((pn.toInt64) * (wh / (100 : Int64))) + ((((pn.toInt64) * (wh % (100 : Int64))) + (99 : Int64)) / (100 : Int64)))), .second, .unset, .unset, .unset, .unset] [(.long ((p0 &&& (9223372036854775807 : Int64)) % ((92233720368547758 : Int64) + (1 : Int64))))]) _
    refine own_s_lstore X0.here hx #[.val (.long p0), .second, .val (.long w0), .second, .val (.int c0), .val (.int d0), .val (.int m0), .val (.long (92233720368547758 : Int64)), .second, .val (.long wh), .second, .val (.int pn), .val (.long (wh / (100 : Int64))), .second, .val (.long (wh % (100 : Int64))), .second, .val (.long (((pn.toInt64) * (wh / (100 : Int64))) + ((((pn.toInt64) * (wh % (100 : Int64))) + (99 : Int64)) / (100 : Int64)))), .second, .val (.long ((p0 &&& (9223372036854775807 : Int64)) % ((92233720368547758 : Int64) + (1 : Int64)))), .second, .unset, .unset] (hb hby at_116) rfl ?_
    have hqb : 0 ≤ (((p0 &&& (9223372036854775807 : Int64)) % ((92233720368547758 : Int64) + (1 : Int64)))).toInt ∧ (((p0 &&& (9223372036854775807 : Int64)) % ((92233720368547758 : Int64) + (1 : Int64)))).toInt ≤ 92233720368547758 := own_wb _
    generalize hpt : ((p0 &&& (9223372036854775807 : Int64)) % ((92233720368547758 : Int64) + (1 : Int64))) = pt
    show own_Go p e below T0 (mkF m 118 #[.val (.long p0), .second, .val (.long w0), .second, .val (.int c0), .val (.int d0), .val (.int m0), .val (.long (92233720368547758 : Int64)), .second, .val (.long wh), .second, .val (.int pn), .val (.long (wh / (100 : Int64))), .second, .val (.long (wh % (100 : Int64))), .second, .val (.long (((pn.toInt64) * (wh / (100 : Int64))) + ((((pn.toInt64) * (wh % (100 : Int64))) + (99 : Int64)) / (100 : Int64)))), .second, .val (.long pt), .second, .unset, .unset] []) _
    rw [hpt] at hqb
    have hreach := own_reach pt wh pn hwb.1 hwb.2 hpb.1 hpb.2 hqb.1 hqb.2
    refine own_s_lload X0.here hx (hb hby at_118) rfl ?_
    refine own_s_lload X0.here hx (hb hby at_120) rfl ?_
    refine own_s_iload X0.here hx (hb hby at_122) rfl ?_
    obtain ⟨_, _, ⟨T1, L1, k1, n1⟩, -, X1, ⟨Lc1, hQ1, l1, y1, z1⟩, st1⟩ := Jvm.LawKit.callS X0 hx (y := (⟨"com/example/fairlead/fairlead/policy/Percent", "reaches", "(JJI)Z"⟩ : MethodName)) hown (mvT hZ (hw _ (List.mem_of_getElem? (i := 5) rfl))) (mvT hZ (hw _ (List.mem_of_getElem? (i := 6) rfl))) (mvT hZ (hw _ (List.mem_of_getElem? (i := 7) rfl))) (mvT hZ (hw _ (List.mem_of_getElem? (i := 8) rfl))) (by decide) (backOf (W := 0) (own_r1 l Z a0 hw [] pt wh pn  h0 n0 Z0 ) hZ (hw _ (List.mem_of_getElem? (i := 8) rfl)) (hw _ (List.mem_of_getElem? (i := 7) rfl)) (by decide) (by decide)) (g := (mkF m 124 #[.val (.long p0), .second, .val (.long w0), .second, .val (.int c0), .val (.int d0), .val (.int m0), .val (.long (92233720368547758 : Int64)), .second, .val (.long wh), .second, .val (.int pn), .val (.long (wh / (100 : Int64))), .second, .val (.long (wh % (100 : Int64))), .second, .val (.long (((pn.toInt64) * (wh / (100 : Int64))) + ((((pn.toInt64) * (wh % (100 : Int64))) + (99 : Int64)) / (100 : Int64)))), .second, .val (.long pt), .second, .unset, .unset] [(.int pn), (.long wh), (.long pt)])) rfl (by rw [hml]; rfl) (argsL := [(.long pt), (.long wh), (.int pn)]) (rest := []) (lenOf own_pd_0 rfl) rfl (by show 2 * 0 + _ ≤ _; exact Nat.le_of_eq rfl) (hb hby at_124) (fun _ _ => ⟨rfl, e0, (by decide : 0 + 0 ≤ _), (by decide : 0 + 0 ≤ _)⟩)
    dsimp only [Pt.U, Pt.locs, Pt.cells, Pt.slots] at X1 l1 y1 z1 st1 hQ1
    subst l1 y1 z1
    obtain ⟨rfl, N1q, e1⟩ := hQ1
    have N1 := Fr.app N0 N1q
    refine own_by st1 ?_
    show own_Go p e below T1 (mkF m 127 #[.val (.long p0), .second, .val (.long w0), .second, .val (.int c0), .val (.int d0), .val (.int m0), .val (.long (92233720368547758 : Int64)), .second, .val (.long wh), .second, .val (.int pn), .val (.long (wh / (100 : Int64))), .second, .val (.long (wh % (100 : Int64))), .second, .val (.long (((pn.toInt64) * (wh / (100 : Int64))) + ((((pn.toInt64) * (wh % (100 : Int64))) + (99 : Int64)) / (100 : Int64)))), .second, .val (.long pt), .second, .unset, .unset] [(.int (own_f1 pt wh pn))]) _
    refine own_s_lload X1.here hx (hb hby at_127) rfl ?_
    refine own_s_lload X1.here hx (hb hby at_129) rfl ?_
    refine own_s_lcmp X1.here hx (hb hby at_131) ?_
    by_cases hc132 : pt < (((pn.toInt64) * (wh / (100 : Int64))) + ((((pn.toInt64) * (wh % (100 : Int64))) + (99 : Int64)) / (100 : Int64)))
    ·
      show own_Go p e below T1 (mkF m 132 #[.val (.long p0), .second, .val (.long w0), .second, .val (.int c0), .val (.int d0), .val (.int m0), .val (.long (92233720368547758 : Int64)), .second, .val (.long wh), .second, .val (.int pn), .val (.long (wh / (100 : Int64))), .second, .val (.long (wh % (100 : Int64))), .second, .val (.long (((pn.toInt64) * (wh / (100 : Int64))) + ((((pn.toInt64) * (wh % (100 : Int64))) + (99 : Int64)) / (100 : Int64)))), .second, .val (.long pt), .second, .unset, .unset] [(.int (Jvm.Free.XT.cmpL pt (((pn.toInt64) * (wh / (100 : Int64))) + ((((pn.toInt64) * (wh % (100 : Int64))) + (99 : Int64)) / (100 : Int64))))), (.int (own_f1 pt wh pn))]) _
      refine own_s_ifYes X1.here hx 139 (hb hby at_132) (Jvm.Free.XT.ll_lt_t hc132) (by decide) (by decide) ?_
      refine own_s_iconst X1.here hx (0 : Int32) (hb hby at_139) rfl ?_
      have own_e : (own_f1 pt wh pn) = (0 : Int32) := by unfold own_f1; rw [if_pos (hreach.mpr hc132)]
      refine own_s_icmpNo X1.here hx (hb hby at_140) (Jvm.Free.XT.ii_ne_f own_e) ?_
      refine own_s_iconst X1.here hx (1 : Int32) (hb hby at_143) rfl ?_
      show own_Go p e below T1 (mkF m 144 #[.val (.long p0), .second, .val (.long w0), .second, .val (.int c0), .val (.int d0), .val (.int m0), .val (.long (92233720368547758 : Int64)), .second, .val (.long wh), .second, .val (.int pn), .val (.long (wh / (100 : Int64))), .second, .val (.long (wh % (100 : Int64))), .second, .val (.long (((pn.toInt64) * (wh / (100 : Int64))) + ((((pn.toInt64) * (wh % (100 : Int64))) + (99 : Int64)) / (100 : Int64)))), .second, .val (.long pt), .second, .unset, .unset] [(.int (1 : Int32))]) _
      refine own_s_goto X1.here hx 148 (hb hby at_144) (by decide) (by decide) ?_
      refine own_retZ X1 hx hret hlk (hb hby at_148) rfl (by decide) (by decide) ?_
      exact ⟨rfl, N1⟩
    ·
      refine own_s_ifNo X1.here hx (hb hby at_132) (Jvm.Free.XT.ll_lt_f hc132) ?_
      refine own_s_iconst X1.here hx (1 : Int32) (hb hby at_135) rfl ?_
      show own_Go p e below T1 (mkF m 136 #[.val (.long p0), .second, .val (.long w0), .second, .val (.int c0), .val (.int d0), .val (.int m0), .val (.long (92233720368547758 : Int64)), .second, .val (.long wh), .second, .val (.int pn), .val (.long (wh / (100 : Int64))), .second, .val (.long (wh % (100 : Int64))), .second, .val (.long (((pn.toInt64) * (wh / (100 : Int64))) + ((((pn.toInt64) * (wh % (100 : Int64))) + (99 : Int64)) / (100 : Int64)))), .second, .val (.long pt), .second, .unset, .unset] [(.int (1 : Int32)), (.int (own_f1 pt wh pn))]) _
      refine own_s_goto X1.here hx 140 (hb hby at_136) (by decide) (by decide) ?_
      have own_e : (own_f1 pt wh pn) = (1 : Int32) := by unfold own_f1; rw [if_neg (fun hq => hc132 (hreach.mp hq))]
      refine own_s_icmpNo X1.here hx (hb hby at_140) (Jvm.Free.XT.ii_ne_f own_e) ?_
      refine own_s_iconst X1.here hx (1 : Int32) (hb hby at_143) rfl ?_
      show own_Go p e below T1 (mkF m 144 #[.val (.long p0), .second, .val (.long w0), .second, .val (.int c0), .val (.int d0), .val (.int m0), .val (.long (92233720368547758 : Int64)), .second, .val (.long wh), .second, .val (.int pn), .val (.long (wh / (100 : Int64))), .second, .val (.long (wh % (100 : Int64))), .second, .val (.long (((pn.toInt64) * (wh / (100 : Int64))) + ((((pn.toInt64) * (wh % (100 : Int64))) + (99 : Int64)) / (100 : Int64)))), .second, .val (.long pt), .second, .unset, .unset] [(.int (1 : Int32))]) _
      refine own_s_goto X1.here hx 148 (hb hby at_144) (by decide) (by decide) ?_
      refine own_retZ X1 hx hret hlk (hb hby at_148) rfl (by decide) (by decide) ?_
      exact ⟨rfl, N1⟩
  ·
    refine own_s_ifNo X0.here hx (hb hby at_70) (Jvm.Free.XT.i0_eq_f hc70) ?_
    refine own_s_iload X0.here hx (hb hby at_73) rfl ?_
    refine own_by (fun t k => X0.ldcInt hx hown (mvT hZ (hw _ (List.mem_of_getElem? (i := 2) rfl))) (g := (mkF m 75 #[.val (.long p0), .second, .val (.long w0), .second, .val (.int c0), .val (.int d0), .val (.int m0), .val (.long (92233720368547758 : Int64)), .second, .val (.long wh), .second, .val (.int pn), .val (.long (wh / (100 : Int64))), .second, .val (.long (wh % (100 : Int64))), .second, .val (.long (((pn.toInt64) * (wh / (100 : Int64))) + ((((pn.toInt64) * (wh % (100 : Int64))) + (99 : Int64)) / (100 : Int64)))), .second, .unset, .unset, .unset, .unset] [(.int d0)])) rfl (hb hby at_75) t k) ?_
    show own_Go p e below T0 (mkF m 77 #[.val (.long p0), .second, .val (.long w0), .second, .val (.int c0), .val (.int d0), .val (.int m0), .val (.long (92233720368547758 : Int64)), .second, .val (.long wh), .second, .val (.int pn), .val (.long (wh / (100 : Int64))), .second, .val (.long (wh % (100 : Int64))), .second, .val (.long (((pn.toInt64) * (wh / (100 : Int64))) + ((((pn.toInt64) * (wh % (100 : Int64))) + (99 : Int64)) / (100 : Int64)))), .second, .unset, .unset, .unset, .unset] [(.int (2147483647 : Int32)), (.int d0)]) _
    refine own_s_iand X0.here hx (hb hby at_77) ?_
    refine own_s_iconst X0.here hx (5 : Int32) (hb hby at_78) rfl ?_
    refine own_by (fun t k => iremM X0 hx rfl (hb hby at_79) rfl (by decide) k) ?_
    show own_Go p e below T0 (mkF m 80 #[.val (.long p0), .second, .val (.long w0), .second, .val (.int c0), .val (.int d0), .val (.int m0), .val (.long (92233720368547758 : Int64)), .second, .val (.long wh), .second, .val (.int pn), .val (.long (wh / (100 : Int64))), .second, .val (.long (wh % (100 : Int64))), .second, .val (.long (((pn.toInt64) * (wh / (100 : Int64))) + ((((pn.toInt64) * (wh % (100 : Int64))) + (99 : Int64)) / (100 : Int64)))), .second, .unset, .unset, .unset, .unset] [(.int ((d0 &&& (2147483647 : Int32)) % (5 : Int32)))]) _
    refine own_s_i2l X0.here hx (hb hby at_80) ?_
    refine own_by (fun t k => X0.ldc2Long hx hown (mvT hZ (hw _ (List.mem_of_getElem? (i := 10) rfl))) (g := (mkF m 81 #[.val (.long p0), .second, .val (.long w0), .second, .val (.int c0), .val (.int d0), .val (.int m0), .val (.long (92233720368547758 : Int64)), .second, .val (.long wh), .second, .val (.int pn), .val (.long (wh / (100 : Int64))), .second, .val (.long (wh % (100 : Int64))), .second, .val (.long (((pn.toInt64) * (wh / (100 : Int64))) + ((((pn.toInt64) * (wh % (100 : Int64))) + (99 : Int64)) / (100 : Int64)))), .second, .unset, .unset, .unset, .unset] [(.long (((d0 &&& (2147483647 : Int32)) % (5 : Int32)).toInt64))])) rfl (hb hby at_81) t k) ?_
    show own_Go p e below T0 (mkF m 84 #[.val (.long p0), .second, .val (.long w0), .second, .val (.int c0), .val (.int d0), .val (.int m0), .val (.long (92233720368547758 : Int64)), .second, .val (.long wh), .second, .val (.int pn), .val (.long (wh / (100 : Int64))), .second, .val (.long (wh % (100 : Int64))), .second, .val (.long (((pn.toInt64) * (wh / (100 : Int64))) + ((((pn.toInt64) * (wh % (100 : Int64))) + (99 : Int64)) / (100 : Int64)))), .second, .unset, .unset, .unset, .unset] [(.long (2 : Int64)), (.long (((d0 &&& (2147483647 : Int32)) % (5 : Int32)).toInt64))]) _
    refine own_s_lsub X0.here hx (hb hby at_84) ?_
    refine own_s_lstore X0.here hx #[.val (.long p0), .second, .val (.long w0), .second, .val (.int c0), .val (.int d0), .val (.int m0), .val (.long (92233720368547758 : Int64)), .second, .val (.long wh), .second, .val (.int pn), .val (.long (wh / (100 : Int64))), .second, .val (.long (wh % (100 : Int64))), .second, .val (.long (((pn.toInt64) * (wh / (100 : Int64))) + ((((pn.toInt64) * (wh % (100 : Int64))) + (99 : Int64)) / (100 : Int64)))), .second, .unset, .unset, .val (.long ((((d0 &&& (2147483647 : Int32)) % (5 : Int32)).toInt64) - (2 : Int64))), .second] (hb hby at_85) rfl ?_
    refine own_s_lconst X0.here hx (0 : Int64) (hb hby at_87) rfl ?_
    refine own_s_lload X0.here hx (hb hby at_88) rfl ?_
    refine own_s_lload X0.here hx (hb hby at_90) rfl ?_
    refine own_s_lload X0.here hx (hb hby at_92) rfl ?_
    refine own_s_ladd X0.here hx (hb hby at_94) ?_
    obtain ⟨_, _, ⟨T2, L2, k2, n2⟩, -, X2, ⟨Lc2, hQ2, l2, y2, z2⟩, st2⟩ := Jvm.LawKit.callS X0 hx (y := (⟨"java/lang/Math", "min", "(JJ)J"⟩ : MethodName)) hown (mvT hZ (hw _ (List.mem_of_getElem? (i := 11) rfl))) (mvT hZ (hw _ (List.mem_of_getElem? (i := 12) rfl))) (mvT hZ (hw _ (List.mem_of_getElem? (i := 13) rfl))) (mvT hZ (hw _ (List.mem_of_getElem? (i := 14) rfl))) (by decide) (backOf (W := 2) (own_r2 l Z a0 hw [] (92233720368547758 : Int64) ((((pn.toInt64) * (wh / (100 : Int64))) + ((((pn.toInt64) * (wh % (100 : Int64))) + (99 : Int64)) / (100 : Int64))) + ((((d0 &&& (2147483647 : Int32)) % (5 : Int32)).toInt64) - (2 : Int64)))  h0 n0 Z0 ) hZ (hw _ (List.mem_of_getElem? (i := 14) rfl)) (hw _ (List.mem_of_getElem? (i := 13) rfl)) (by decide) (by decide)) (g := (mkF m 95 #[.val (.long p0), .second, .val (.long w0), .second, .val (.int c0), .val (.int d0), .val (.int m0), .val (.long (92233720368547758 : Int64)), .second, .val (.long wh), .second, .val (.int pn), .val (.long (wh / (100 : Int64))), .second, .val (.long (wh % (100 : Int64))), .second, .val (.long (((pn.toInt64) * (wh / (100 : Int64))) + ((((pn.toInt64) * (wh % (100 : Int64))) + (99 : Int64)) / (100 : Int64)))), .second, .unset, .unset, .val (.long ((((d0 &&& (2147483647 : Int32)) % (5 : Int32)).toInt64) - (2 : Int64))), .second] [(.long ((((pn.toInt64) * (wh / (100 : Int64))) + ((((pn.toInt64) * (wh % (100 : Int64))) + (99 : Int64)) / (100 : Int64))) + ((((d0 &&& (2147483647 : Int32)) % (5 : Int32)).toInt64) - (2 : Int64)))), (.long (92233720368547758 : Int64)), (.long (0 : Int64))])) rfl (by rw [hml]; rfl) (argsL := [(.long (92233720368547758 : Int64)), (.long ((((pn.toInt64) * (wh / (100 : Int64))) + ((((pn.toInt64) * (wh % (100 : Int64))) + (99 : Int64)) / (100 : Int64))) + ((((d0 &&& (2147483647 : Int32)) % (5 : Int32)).toInt64) - (2 : Int64))))]) (rest := [(.long (0 : Int64))]) (lenOf own_pd_1 rfl) rfl (by show 2 * 0 + _ ≤ _; exact Nat.le_of_eq rfl) (hb hby at_95) (fun _ _ => ⟨rfl, e0, (by decide : 0 + 0 ≤ _), (by decide : 0 + 0 ≤ _)⟩)
    dsimp only [Pt.U, Pt.locs, Pt.cells, Pt.slots] at X2 l2 y2 z2 st2 hQ2
    subst l2 y2 z2
    obtain ⟨rfl, N2q, e2⟩ := hQ2
    have N2 := Fr.app N0 N2q
    refine own_by st2 ?_
    show own_Go p e below T2 (mkF m 98 #[.val (.long p0), .second, .val (.long w0), .second, .val (.int c0), .val (.int d0), .val (.int m0), .val (.long (92233720368547758 : Int64)), .second, .val (.long wh), .second, .val (.int pn), .val (.long (wh / (100 : Int64))), .second, .val (.long (wh % (100 : Int64))), .second, .val (.long (((pn.toInt64) * (wh / (100 : Int64))) + ((((pn.toInt64) * (wh % (100 : Int64))) + (99 : Int64)) / (100 : Int64)))), .second, .unset, .unset, .val (.long ((((d0 &&& (2147483647 : Int32)) % (5 : Int32)).toInt64) - (2 : Int64))), .second] [(.long (own_f2 (92233720368547758 : Int64) ((((pn.toInt64) * (wh / (100 : Int64))) + ((((pn.toInt64) * (wh % (100 : Int64))) + (99 : Int64)) / (100 : Int64))) + ((((d0 &&& (2147483647 : Int32)) % (5 : Int32)).toInt64) - (2 : Int64))))), (.long (0 : Int64))]) _
    obtain ⟨_, _, ⟨T3, L3, k3, n3⟩, -, X3, ⟨Lc3, hQ3, l3, y3, z3⟩, st3⟩ := Jvm.LawKit.callS X2 hx (y := (⟨"java/lang/Math", "max", "(JJ)J"⟩ : MethodName)) hown (mvT hZ (hw _ (List.mem_of_getElem? (i := 15) rfl))) (mvT hZ (hw _ (List.mem_of_getElem? (i := 16) rfl))) (mvT hZ (hw _ (List.mem_of_getElem? (i := 13) rfl))) (mvT hZ (hw _ (List.mem_of_getElem? (i := 17) rfl))) (by decide) (backOf (W := 0) (own_r3 l Z a0 hw [] (0 : Int64) (own_f2 (92233720368547758 : Int64) ((((pn.toInt64) * (wh / (100 : Int64))) + ((((pn.toInt64) * (wh % (100 : Int64))) + (99 : Int64)) / (100 : Int64))) + ((((d0 &&& (2147483647 : Int32)) % (5 : Int32)).toInt64) - (2 : Int64))))  h0 n0 Z0 ) hZ (hw _ (List.mem_of_getElem? (i := 17) rfl)) (hw _ (List.mem_of_getElem? (i := 13) rfl)) (by decide) (by decide)) (g := (mkF m 98 #[.val (.long p0), .second, .val (.long w0), .second, .val (.int c0), .val (.int d0), .val (.int m0), .val (.long (92233720368547758 : Int64)), .second, .val (.long wh), .second, .val (.int pn), .val (.long (wh / (100 : Int64))), .second, .val (.long (wh % (100 : Int64))), .second, .val (.long (((pn.toInt64) * (wh / (100 : Int64))) + ((((pn.toInt64) * (wh % (100 : Int64))) + (99 : Int64)) / (100 : Int64)))), .second, .unset, .unset, .val (.long ((((d0 &&& (2147483647 : Int32)) % (5 : Int32)).toInt64) - (2 : Int64))), .second] [(.long (own_f2 (92233720368547758 : Int64) ((((pn.toInt64) * (wh / (100 : Int64))) + ((((pn.toInt64) * (wh % (100 : Int64))) + (99 : Int64)) / (100 : Int64))) + ((((d0 &&& (2147483647 : Int32)) % (5 : Int32)).toInt64) - (2 : Int64))))), (.long (0 : Int64))])) rfl (by rw [hml]; rfl) (argsL := [(.long (0 : Int64)), (.long (own_f2 (92233720368547758 : Int64) ((((pn.toInt64) * (wh / (100 : Int64))) + ((((pn.toInt64) * (wh % (100 : Int64))) + (99 : Int64)) / (100 : Int64))) + ((((d0 &&& (2147483647 : Int32)) % (5 : Int32)).toInt64) - (2 : Int64)))))]) (rest := []) (lenOf own_pd_1 rfl) rfl (by show 2 * 0 + _ ≤ _; exact Nat.le_of_eq rfl) (hb hby at_98) (fun _ _ => ⟨rfl, e2, (by decide : 0 + 0 ≤ _), (by decide : 0 + 0 ≤ _)⟩)
    dsimp only [Pt.U, Pt.locs, Pt.cells, Pt.slots] at X3 l3 y3 z3 st3 hQ3
    subst l3 y3 z3
    obtain ⟨rfl, N3q, e3⟩ := hQ3
    have N3 := Fr.app N2 N3q
    refine own_by st3 ?_
    show own_Go p e below T3 (mkF m 101 #[.val (.long p0), .second, .val (.long w0), .second, .val (.int c0), .val (.int d0), .val (.int m0), .val (.long (92233720368547758 : Int64)), .second, .val (.long wh), .second, .val (.int pn), .val (.long (wh / (100 : Int64))), .second, .val (.long (wh % (100 : Int64))), .second, .val (.long (((pn.toInt64) * (wh / (100 : Int64))) + ((((pn.toInt64) * (wh % (100 : Int64))) + (99 : Int64)) / (100 : Int64)))), .second, .unset, .unset, .val (.long ((((d0 &&& (2147483647 : Int32)) % (5 : Int32)).toInt64) - (2 : Int64))), .second] [(.long (own_f3 (0 : Int64) (own_f2 (92233720368547758 : Int64) ((((pn.toInt64) * (wh / (100 : Int64))) + ((((pn.toInt64) * (wh % (100 : Int64))) + (99 : Int64)) / (100 : Int64))) + ((((d0 &&& (2147483647 : Int32)) % (5 : Int32)).toInt64) - (2 : Int64))))))]) _
    refine own_s_lstore X3.here hx #[.val (.long p0), .second, .val (.long w0), .second, .val (.int c0), .val (.int d0), .val (.int m0), .val (.long (92233720368547758 : Int64)), .second, .val (.long wh), .second, .val (.int pn), .val (.long (wh / (100 : Int64))), .second, .val (.long (wh % (100 : Int64))), .second, .val (.long (((pn.toInt64) * (wh / (100 : Int64))) + ((((pn.toInt64) * (wh % (100 : Int64))) + (99 : Int64)) / (100 : Int64)))), .second, .val (.long (own_f3 (0 : Int64) (own_f2 (92233720368547758 : Int64) ((((pn.toInt64) * (wh / (100 : Int64))) + ((((pn.toInt64) * (wh % (100 : Int64))) + (99 : Int64)) / (100 : Int64))) + ((((d0 &&& (2147483647 : Int32)) % (5 : Int32)).toInt64) - (2 : Int64)))))), .second, .val (.long ((((d0 &&& (2147483647 : Int32)) % (5 : Int32)).toInt64) - (2 : Int64))), .second] (hb hby at_101) rfl ?_
    show own_Go p e below T3 (mkF m 103 #[.val (.long p0), .second, .val (.long w0), .second, .val (.int c0), .val (.int d0), .val (.int m0), .val (.long (92233720368547758 : Int64)), .second, .val (.long wh), .second, .val (.int pn), .val (.long (wh / (100 : Int64))), .second, .val (.long (wh % (100 : Int64))), .second, .val (.long (((pn.toInt64) * (wh / (100 : Int64))) + ((((pn.toInt64) * (wh % (100 : Int64))) + (99 : Int64)) / (100 : Int64)))), .second, .val (.long (own_f3 (0 : Int64) (own_f2 (92233720368547758 : Int64) ((((pn.toInt64) * (wh / (100 : Int64))) + ((((pn.toInt64) * (wh % (100 : Int64))) + (99 : Int64)) / (100 : Int64))) + ((((d0 &&& (2147483647 : Int32)) % (5 : Int32)).toInt64) - (2 : Int64)))))), .second, .val (.long ((((d0 &&& (2147483647 : Int32)) % (5 : Int32)).toInt64) - (2 : Int64))), .second] []) _
    refine own_s_goto X3.here hx 118 (hb hby at_103) (by decide) (by decide) ?_
    have hqb : 0 ≤ ((own_f3 (0 : Int64) (own_f2 (92233720368547758 : Int64) ((((pn.toInt64) * (wh / (100 : Int64))) + ((((pn.toInt64) * (wh % (100 : Int64))) + (99 : Int64)) / (100 : Int64))) + ((((d0 &&& (2147483647 : Int32)) % (5 : Int32)).toInt64) - (2 : Int64)))))).toInt ∧ ((own_f3 (0 : Int64) (own_f2 (92233720368547758 : Int64) ((((pn.toInt64) * (wh / (100 : Int64))) + ((((pn.toInt64) * (wh % (100 : Int64))) + (99 : Int64)) / (100 : Int64))) + ((((d0 &&& (2147483647 : Int32)) % (5 : Int32)).toInt64) - (2 : Int64)))))).toInt ≤ 92233720368547758 := own_mm _
    generalize hpt : (own_f3 (0 : Int64) (own_f2 (92233720368547758 : Int64) ((((pn.toInt64) * (wh / (100 : Int64))) + ((((pn.toInt64) * (wh % (100 : Int64))) + (99 : Int64)) / (100 : Int64))) + ((((d0 &&& (2147483647 : Int32)) % (5 : Int32)).toInt64) - (2 : Int64))))) = pt
    show own_Go p e below T3 (mkF m 118 #[.val (.long p0), .second, .val (.long w0), .second, .val (.int c0), .val (.int d0), .val (.int m0), .val (.long (92233720368547758 : Int64)), .second, .val (.long wh), .second, .val (.int pn), .val (.long (wh / (100 : Int64))), .second, .val (.long (wh % (100 : Int64))), .second, .val (.long (((pn.toInt64) * (wh / (100 : Int64))) + ((((pn.toInt64) * (wh % (100 : Int64))) + (99 : Int64)) / (100 : Int64)))), .second, .val (.long pt), .second, .val (.long ((((d0 &&& (2147483647 : Int32)) % (5 : Int32)).toInt64) - (2 : Int64))), .second] []) _
    rw [hpt] at hqb
    have hreach := own_reach pt wh pn hwb.1 hwb.2 hpb.1 hpb.2 hqb.1 hqb.2
    refine own_s_lload X3.here hx (hb hby at_118) rfl ?_
    refine own_s_lload X3.here hx (hb hby at_120) rfl ?_
    refine own_s_iload X3.here hx (hb hby at_122) rfl ?_
    obtain ⟨_, _, ⟨T4, L4, k4, n4⟩, -, X4, ⟨Lc4, hQ4, l4, y4, z4⟩, st4⟩ := Jvm.LawKit.callS X3 hx (y := (⟨"com/example/fairlead/fairlead/policy/Percent", "reaches", "(JJI)Z"⟩ : MethodName)) hown (mvT hZ (hw _ (List.mem_of_getElem? (i := 5) rfl))) (mvT hZ (hw _ (List.mem_of_getElem? (i := 6) rfl))) (mvT hZ (hw _ (List.mem_of_getElem? (i := 7) rfl))) (mvT hZ (hw _ (List.mem_of_getElem? (i := 8) rfl))) (by decide) (backOf (W := 0) (own_r1 l Z a0 hw [] pt wh pn  h0 n0 Z0 ) hZ (hw _ (List.mem_of_getElem? (i := 8) rfl)) (hw _ (List.mem_of_getElem? (i := 7) rfl)) (by decide) (by decide)) (g := (mkF m 124 #[.val (.long p0), .second, .val (.long w0), .second, .val (.int c0), .val (.int d0), .val (.int m0), .val (.long (92233720368547758 : Int64)), .second, .val (.long wh), .second, .val (.int pn), .val (.long (wh / (100 : Int64))), .second, .val (.long (wh % (100 : Int64))), .second, .val (.long (((pn.toInt64) * (wh / (100 : Int64))) + ((((pn.toInt64) * (wh % (100 : Int64))) + (99 : Int64)) / (100 : Int64)))), .second, .val (.long pt), .second, .val (.long ((((d0 &&& (2147483647 : Int32)) % (5 : Int32)).toInt64) - (2 : Int64))), .second] [(.int pn), (.long wh), (.long pt)])) rfl (by rw [hml]; rfl) (argsL := [(.long pt), (.long wh), (.int pn)]) (rest := []) (lenOf own_pd_0 rfl) rfl (by show 2 * 0 + _ ≤ _; exact Nat.le_of_eq rfl) (hb hby at_124) (fun _ _ => ⟨rfl, e3, (by decide : 0 + 0 ≤ _), (by decide : 0 + 0 ≤ _)⟩)
    dsimp only [Pt.U, Pt.locs, Pt.cells, Pt.slots] at X4 l4 y4 z4 st4 hQ4
    subst l4 y4 z4
    obtain ⟨rfl, N4q, e4⟩ := hQ4
    have N4 := Fr.app N3 N4q
    refine own_by st4 ?_
    show own_Go p e below T4 (mkF m 127 #[.val (.long p0), .second, .val (.long w0), .second, .val (.int c0), .val (.int d0), .val (.int m0), .val (.long (92233720368547758 : Int64)), .second, .val (.long wh), .second, .val (.int pn), .val (.long (wh / (100 : Int64))), .second, .val (.long (wh % (100 : Int64))), .second, .val (.long (((pn.toInt64) * (wh / (100 : Int64))) + ((((pn.toInt64) * (wh % (100 : Int64))) + (99 : Int64)) / (100 : Int64)))), .second, .val (.long pt), .second, .val (.long ((((d0 &&& (2147483647 : Int32)) % (5 : Int32)).toInt64) - (2 : Int64))), .second] [(.int (own_f1 pt wh pn))]) _
    refine own_s_lload X4.here hx (hb hby at_127) rfl ?_
    refine own_s_lload X4.here hx (hb hby at_129) rfl ?_
    refine own_s_lcmp X4.here hx (hb hby at_131) ?_
    by_cases hc132 : pt < (((pn.toInt64) * (wh / (100 : Int64))) + ((((pn.toInt64) * (wh % (100 : Int64))) + (99 : Int64)) / (100 : Int64)))
    ·
      show own_Go p e below T4 (mkF m 132 #[.val (.long p0), .second, .val (.long w0), .second, .val (.int c0), .val (.int d0), .val (.int m0), .val (.long (92233720368547758 : Int64)), .second, .val (.long wh), .second, .val (.int pn), .val (.long (wh / (100 : Int64))), .second, .val (.long (wh % (100 : Int64))), .second, .val (.long (((pn.toInt64) * (wh / (100 : Int64))) + ((((pn.toInt64) * (wh % (100 : Int64))) + (99 : Int64)) / (100 : Int64)))), .second, .val (.long pt), .second, .val (.long ((((d0 &&& (2147483647 : Int32)) % (5 : Int32)).toInt64) - (2 : Int64))), .second] [(.int (Jvm.Free.XT.cmpL pt (((pn.toInt64) * (wh / (100 : Int64))) + ((((pn.toInt64) * (wh % (100 : Int64))) + (99 : Int64)) / (100 : Int64))))), (.int (own_f1 pt wh pn))]) _
      refine own_s_ifYes X4.here hx 139 (hb hby at_132) (Jvm.Free.XT.ll_lt_t hc132) (by decide) (by decide) ?_
      refine own_s_iconst X4.here hx (0 : Int32) (hb hby at_139) rfl ?_
      have own_e : (own_f1 pt wh pn) = (0 : Int32) := by unfold own_f1; rw [if_pos (hreach.mpr hc132)]
      refine own_s_icmpNo X4.here hx (hb hby at_140) (Jvm.Free.XT.ii_ne_f own_e) ?_
      refine own_s_iconst X4.here hx (1 : Int32) (hb hby at_143) rfl ?_
      show own_Go p e below T4 (mkF m 144 #[.val (.long p0), .second, .val (.long w0), .second, .val (.int c0), .val (.int d0), .val (.int m0), .val (.long (92233720368547758 : Int64)), .second, .val (.long wh), .second, .val (.int pn), .val (.long (wh / (100 : Int64))), .second, .val (.long (wh % (100 : Int64))), .second, .val (.long (((pn.toInt64) * (wh / (100 : Int64))) + ((((pn.toInt64) * (wh % (100 : Int64))) + (99 : Int64)) / (100 : Int64)))), .second, .val (.long pt), .second, .val (.long ((((d0 &&& (2147483647 : Int32)) % (5 : Int32)).toInt64) - (2 : Int64))), .second] [(.int (1 : Int32))]) _
      refine own_s_goto X4.here hx 148 (hb hby at_144) (by decide) (by decide) ?_
      refine own_retZ X4 hx hret hlk (hb hby at_148) rfl (by decide) (by decide) ?_
      exact ⟨rfl, N4⟩
    ·
      refine own_s_ifNo X4.here hx (hb hby at_132) (Jvm.Free.XT.ll_lt_f hc132) ?_
      refine own_s_iconst X4.here hx (1 : Int32) (hb hby at_135) rfl ?_
      show own_Go p e below T4 (mkF m 136 #[.val (.long p0), .second, .val (.long w0), .second, .val (.int c0), .val (.int d0), .val (.int m0), .val (.long (92233720368547758 : Int64)), .second, .val (.long wh), .second, .val (.int pn), .val (.long (wh / (100 : Int64))), .second, .val (.long (wh % (100 : Int64))), .second, .val (.long (((pn.toInt64) * (wh / (100 : Int64))) + ((((pn.toInt64) * (wh % (100 : Int64))) + (99 : Int64)) / (100 : Int64)))), .second, .val (.long pt), .second, .val (.long ((((d0 &&& (2147483647 : Int32)) % (5 : Int32)).toInt64) - (2 : Int64))), .second] [(.int (1 : Int32)), (.int (own_f1 pt wh pn))]) _
      refine own_s_goto X4.here hx 140 (hb hby at_136) (by decide) (by decide) ?_
      have own_e : (own_f1 pt wh pn) = (1 : Int32) := by unfold own_f1; rw [if_neg (fun hq => hc132 (hreach.mp hq))]
      refine own_s_icmpNo X4.here hx (hb hby at_140) (Jvm.Free.XT.ii_ne_f own_e) ?_
      refine own_s_iconst X4.here hx (1 : Int32) (hb hby at_143) rfl ?_
      show own_Go p e below T4 (mkF m 144 #[.val (.long p0), .second, .val (.long w0), .second, .val (.int c0), .val (.int d0), .val (.int m0), .val (.long (92233720368547758 : Int64)), .second, .val (.long wh), .second, .val (.int pn), .val (.long (wh / (100 : Int64))), .second, .val (.long (wh % (100 : Int64))), .second, .val (.long (((pn.toInt64) * (wh / (100 : Int64))) + ((((pn.toInt64) * (wh % (100 : Int64))) + (99 : Int64)) / (100 : Int64)))), .second, .val (.long pt), .second, .val (.long ((((d0 &&& (2147483647 : Int32)) % (5 : Int32)).toInt64) - (2 : Int64))), .second] [(.int (1 : Int32))]) _
      refine own_s_goto X4.here hx 148 (hb hby at_144) (by decide) (by decide) ?_
      refine own_retZ X4 hx hret hlk (hb hby at_148) rfl (by decide) (by decide) ?_
      exact ⟨rfl, N4⟩
set_option maxRecDepth 65536 in
set_option maxHeartbeats 40000000 in
theorem own_comes {Post : Tables → Env → Array Value → State → Outcome → State → Prop} (hpost : ∀ tb e args s v u, (limb_1_1.after args s (.returned v) u = true ∧ limb_1_2.after args s (.returned v) u = true ∧ True) → FrameEnd s (.returned v) u (Jvm.fieldLocs frame_1_writes args s ++ Jvm.arrayLocs frame_1_arrays args s ++ Jvm.staticLocs frame_1_statics s) 0 0 → Post tb e args s (.returned v) u) :
    ArmFor flags0 classFile x code maxLocals ret World_1 tables_1 room_1 Calls_1 rest_1 Pre_1 Post := by
  intro l hfl _ _ p e ha hc hk s m args below hf hA hF happ hP
  obtain ⟨hcalls, hrest, hpre⟩ := hP
  obtain ⟨-, -, -, hnamed, -, -, -, hat⟩ := (Spec.applies_iff hf).mp happ
  obtain ⟨hg, hn⟩ := and_e (Cond.before_iff.mp (show (Jvm.Cond.and given_1 narrow_1).before args s = true from hpre))
  obtain ⟨g1, g2⟩ := and_e hg
  obtain ⟨g3, g4⟩ := and_e g2
  obtain ⟨g5, g6⟩ := and_e g4
  obtain ⟨g7, g8⟩ := and_e g6
  obtain ⟨g9, g10⟩ := and_e g8
  obtain ⟨w0, w1, w2, w3, w4, rfl⟩ : ∃ w0 w1 w2 w3 w4 : Value, args = #[w0, w1, w2, w3, w4] := by
    have hs : args.size = 5 := by simpa [Cond.value, given_1] using g1
    obtain ⟨L⟩ := args
    match L, hs with
    | [w0, w1, w2, w3, w4], _ => exact ⟨w0, w1, w2, w3, w4, rfl⟩
  have hw := fun d (hd : d ∈ tables_1) => atoms_spec (ws := Jvm.Cond.code x code maxLocals ret :: tables_1) hat d (List.mem_cons_of_mem _ hd)
  obtain ⟨i0, ei0⟩ := isL_v g3
  obtain rfl : w0 = (.long i0) := Option.some.inj ei0
  obtain ⟨i1, ei1⟩ := isL_v g5
  obtain rfl : w1 = (.long i1) := Option.some.inj ei1
  obtain ⟨i2, ei2⟩ := is_v g7
  obtain rfl : w2 = (.int i2) := Option.some.inj ei2
  obtain ⟨i3, ei3⟩ := is_v g9
  obtain rfl : w3 = (.int i3) := Option.some.inj ei3
  obtain ⟨i4, ei4⟩ := is_v g10
  obtain rfl : w4 = (.int i4) := Option.some.inj ei4
  obtain ⟨n, o, h1, h2, h3, _, L, rfl, ⟨rfl, N⟩, hq⟩ := own_r0 l s _ hw tables_1 i0 i1 i2 i3 i4 s.heap s.heap.size (Nat.le_refl _) p e ha hc hk s m _ below hf ((Spec.applies_iff_loose hf).mp happ).1 ⟨rfl, State.Warmed39.refl s, rfl⟩ trivial
  refine ⟨n, _, h1, h2, h3, hpost _ _ _ _ _ _ ⟨Cond.after_iff.mpr rfl, Cond.after_iff.mpr (eq_i res_at (Term.int_eval (1)) rfl), trivial⟩ ⟨hq.1, hq.2.1, (hq.2.2.sift fun y hy => Or.inr (N y hy)).mono (by decide) (by decide)⟩⟩
theorem main_1_1 : Claimed_1_1 := own_comes fun _ _ _ _ _ _ h hF => ⟨h.1, hF⟩
theorem main_1_2 : Claimed_1_2 := own_comes fun _ _ _ _ _ _ h hF => ⟨h.2.1, hF⟩
end Jvm.Pilot.@@N@@
namespace Jvm.Pilot.@@N@@
open Jvm Jvm.ClassFile Sem Op Lib Jvm.Free Jvm.Stand Jvm.Pilot.@@N@@.Jvm.D
/-! MADE BY PROGRAM (witnessworld.py) out of the Statement's table words and the real class files: 10 classes; the members and pool entries that the words name. The judged class is class 1, her method 1. -/
namespace start1
open Jvm.ClassFile
def u (s : String) : CpInfo := .utf8 (stringToUtf16 s)
/-- a pool by its gaps: so many unusable entries, then the entry; so many at the end -/
def gap : Nat → List CpInfo → List CpInfo
  | 0, r => r
  | n + 1, r => .unusable :: gap n r
def poolList (es : List (Nat × CpInfo)) (last : Nat) : List CpInfo := es.foldr (fun e r => gap e.1 (e.2 :: r)) (gap last [])
def pool (es : List (Nat × CpInfo)) (last : Nat) : Array CpInfo := ⟨poolList es last⟩
def fileOf (pool : Array CpInfo) (this : Nat) (attrs : Array Attribute := #[]) (ms : Array MethodInfo := #[]) (fl : Nat := 33) (sup : Nat := 0) (ifs : Array Nat := #[]) (fds : Array FieldInfo := #[]) : ClassFile where
  minorVersion := 0
  majorVersion := 65
  constantPool := pool
  accessFlags := fl
  thisClass := this
  superClass := sup
  interfaces := ifs
  fields := fds
  methods := ms
  attributes := attrs
def plain (name : String) (sup : Option ClassId) : Class where
  name := name
  kind := .ordinary
  loader := none
  accessFlags := 33
  super := sup
  interfaces := #[]
  cf := none
  fields := #[]
  methods := #[]
  instanceTypes := #[]
  staticTypes := #[]
  resolved := #[]
  callSites := []
  init := .initialized
  statics := none
  mirror := none

def pool0 : Array CpInfo := pool [(5, u "<init>"), (0, u "()V"), (1, .class_ 10), (1, u "java/lang/Object")] 113

def k0m0 : Method := { name := "<init>", desc := "()V", sig := { parameters := [], returnType := none }, accessFlags := 1, code := none }
/-- java/lang/Object -/
def k0 : Class := { plain "java/lang/Object" none with
  accessFlags := 33
  interfaces := #[]
  cf := some (fileOf pool0 8 #[] #[{ accessFlags := 1, nameIndex := 5, descriptorIndex := 6, attributes := #[] }] 33 0 #[] #[])
  fields := #[]
  methods := #[k0m0]
  instanceTypes := #[]
  staticTypes := #[]
  resolved := Array.replicate 124 none
  statics := none }

def pool1 : Array CpInfo := pool [(2, .class_ 4), (1, u "java/lang/Object"), (0, u "<init>"), (0, u "()V"), (2, .long 92233720368547758), (1, .long 9223372036854775807), (1, .integer 2147483647), (0, .long 100), (1, .long 99), (1, .long 2), (1, .methodref 21 22), (0, .class_ 23), (0, .nameAndType 24 25), (0, u "java/lang/Math"), (0, u "min"), (0, u "(JJ)J"), (0, .methodref 21 27), (0, .nameAndType 28 25), (0, u "max"), (0, .methodref 30 31), (0, .class_ 32), (0, .nameAndType 33 34), (0, u "com/example/fairlead/fairlead/policy/Percent"), (0, u "reaches"), (0, u "(JJI)Z"), (0, .class_ 36), (0, u "com/example/fairlead/fairlead/policy/PercentReachesPinLaw"), (2, u "law"), (0, u "(JJIII)Z")] 3

def k1m0 : Method := { name := "<init>", desc := "()V", sig := { parameters := [], returnType := none }, accessFlags := 2, code := none }
def k1c1 : Code := { maxStack := 8, maxLocals := 22, code := code, exceptionTable := #[], attributes := #[] }
def k1m1 : Method := { name := "law", desc := "(JJIII)Z", sig := { parameters := [.long, .long, .int, .int, .int], returnType := some .boolean }, accessFlags := 9, code := some k1c1 }
/-- com/example/fairlead/fairlead/policy/PercentReachesPinLaw -/
def k1 : Class := { plain "com/example/fairlead/fairlead/policy/PercentReachesPinLaw" (some 0) with
  accessFlags := 49
  interfaces := #[]
  cf := some (fileOf pool1 35 #[] #[{ accessFlags := 2, nameIndex := 5, descriptorIndex := 6, attributes := #[] }, { accessFlags := 9, nameIndex := 39, descriptorIndex := 40, attributes := #[] }] 49 2 #[] #[])
  fields := #[]
  methods := #[k1m0, k1m1]
  instanceTypes := #[]
  staticTypes := #[]
  resolved := Array.replicate 44 none
  statics := none }

def pool2 : Array CpInfo := pool [(2, .class_ 4), (1, u "java/lang/Object"), (0, u "<init>"), (0, u "()V"), (0, .long 100), (1, .class_ 10), (0, u "com/example/fairlead/fairlead/policy/Percent"), (2, u "reaches"), (0, u "(JJI)Z")] 3

def k2m0 : Method := { name := "<init>", desc := "()V", sig := { parameters := [], returnType := none }, accessFlags := 2, code := none }
def k2c1 : Code := { maxStack := 6, maxLocals := 5, code := prog_37_method_2_code, exceptionTable := #[], attributes := #[] }
def k2m1 : Method := { name := "reaches", desc := "(JJI)Z", sig := { parameters := [.long, .long, .int], returnType := some .boolean }, accessFlags := 8, code := some k2c1 }
/-- com/example/fairlead/fairlead/policy/Percent -/
def k2 : Class := { plain "com/example/fairlead/fairlead/policy/Percent" (some 0) with
  accessFlags := 32
  interfaces := #[]
  cf := some (fileOf pool2 9 #[] #[{ accessFlags := 2, nameIndex := 5, descriptorIndex := 6, attributes := #[] }, { accessFlags := 8, nameIndex := 13, descriptorIndex := 14, attributes := #[] }] 32 2 #[] #[])
  fields := #[]
  methods := #[k2m0, k2m1]
  instanceTypes := #[]
  staticTypes := #[]
  resolved := Array.replicate 18 none
  statics := none }

def pool3 : Array CpInfo := pool [(1, .class_ 2), (0, u "java/lang/Math"), (1, .class_ 6), (1, u "java/lang/Object"), (0, u "<init>"), (0, u "()V"), (89, .class_ 100), (1, u "java/lang/Math$RandomNumberGeneratorHolder"), (20, u "(JJ)J"), (50, u "negativeZeroFloatBits"), (0, u "J"), (2, u "negativeZeroDoubleBits"), (21, u "max"), (2, u "min"), (43, u "$assertionsDisabled"), (0, u "Z"), (91, u "twoToTheDoubleScaleDown"), (0, u "D"), (4, u "twoToTheDoubleScaleUp"), (9, u "E"), (3, u "PI"), (2, u "TAU"), (2, u "DEGREES_TO_RADIANS"), (0, u "RADIANS_TO_DEGREES")] 94

def k3m0 : Method := { name := "<init>", desc := "()V", sig := { parameters := [], returnType := none }, accessFlags := 2, code := none }
def k3c1 : Code := { maxStack := 4, maxLocals := 4, code := jdk_29_method_66_code, exceptionTable := #[], attributes := #[] }
def k3m1 : Method := { name := "max", desc := "(JJ)J", sig := { parameters := [.long, .long], returnType := some .long }, accessFlags := 9, code := some k3c1 }
def k3c2 : Code := { maxStack := 4, maxLocals := 4, code := jdk_29_method_70_code, exceptionTable := #[], attributes := #[] }
def k3m2 : Method := { name := "min", desc := "(JJ)J", sig := { parameters := [.long, .long], returnType := some .long }, accessFlags := 9, code := some k3c2 }
/-- java/lang/Math -/
def k3 : Class := { plain "java/lang/Math" (some 0) with
  accessFlags := 49
  interfaces := #[]
  cf := some (fileOf pool3 1 #[.nestMembers #[98]] #[{ accessFlags := 2, nameIndex := 7, descriptorIndex := 8, attributes := #[] }, { accessFlags := 9, nameIndex := 198, descriptorIndex := 121, attributes := #[] }, { accessFlags := 9, nameIndex := 201, descriptorIndex := 121, attributes := #[] }] 49 4 #[] #[{ accessFlags := 25, nameIndex := 354, descriptorIndex := 339, attributes := #[] }, { accessFlags := 25, nameIndex := 358, descriptorIndex := 339, attributes := #[] }, { accessFlags := 25, nameIndex := 361, descriptorIndex := 339, attributes := #[] }, { accessFlags := 26, nameIndex := 364, descriptorIndex := 339, attributes := #[] }, { accessFlags := 26, nameIndex := 365, descriptorIndex := 339, attributes := #[] }, { accessFlags := 26, nameIndex := 172, descriptorIndex := 173, attributes := #[] }, { accessFlags := 26, nameIndex := 176, descriptorIndex := 173, attributes := #[] }, { accessFlags := 8, nameIndex := 344, descriptorIndex := 339, attributes := #[] }, { accessFlags := 8, nameIndex := 338, descriptorIndex := 339, attributes := #[] }, { accessFlags := 4120, nameIndex := 245, descriptorIndex := 246, attributes := #[] }])
  fields := #[{ name := "E", type := .double, accessFlags := 25, slot := 0, constantValue := 0 }, { name := "PI", type := .double, accessFlags := 25, slot := 1, constantValue := 0 }, { name := "TAU", type := .double, accessFlags := 25, slot := 2, constantValue := 0 }, { name := "DEGREES_TO_RADIANS", type := .double, accessFlags := 26, slot := 3, constantValue := 0 }, { name := "RADIANS_TO_DEGREES", type := .double, accessFlags := 26, slot := 4, constantValue := 0 }, { name := "negativeZeroFloatBits", type := .long, accessFlags := 26, slot := 5, constantValue := 0 }, { name := "negativeZeroDoubleBits", type := .long, accessFlags := 26, slot := 6, constantValue := 0 }, { name := "twoToTheDoubleScaleUp", type := .double, accessFlags := 8, slot := 7, constantValue := 0 }, { name := "twoToTheDoubleScaleDown", type := .double, accessFlags := 8, slot := 8, constantValue := 0 }, { name := "$assertionsDisabled", type := .boolean, accessFlags := 4120, slot := 9, constantValue := 0 }]
  methods := #[k3m0, k3m1, k3m2]
  instanceTypes := #[]
  staticTypes := #[.double, .double, .double, .double, .double, .long, .long, .double, .double, .boolean]
  resolved := Array.replicate 460 none
  statics := none }

def pool4 : Array CpInfo := pool [(1, u "java/lang/Cloneable"), (0, .class_ 1), (0, u "java/lang/Object"), (0, .class_ 3)] 3

/-- java/lang/Cloneable -/
def k4 : Class := { plain "java/lang/Cloneable" (some 0) with
  accessFlags := 1537
  interfaces := #[]
  cf := some (fileOf pool4 2 #[] #[] 1537 4 #[] #[])
  fields := #[]
  methods := #[]
  instanceTypes := #[]
  staticTypes := #[]
  resolved := Array.replicate 8 none
  statics := none }

def pool5 : Array CpInfo := pool [(1, u "java/io/Serializable"), (0, .class_ 1), (0, u "java/lang/Object"), (0, .class_ 3)] 3

/-- java/io/Serializable -/
def k5 : Class := { plain "java/io/Serializable" (some 0) with
  accessFlags := 1537
  interfaces := #[]
  cf := some (fileOf pool5 2 #[] #[] 1537 4 #[] #[])
  fields := #[]
  methods := #[]
  instanceTypes := #[]
  staticTypes := #[]
  resolved := Array.replicate 8 none
  statics := none }

/-- the primitive byte -/
def k6 : Class := { plain "byte" none with kind := .primitive 'B', accessFlags := 0x411 }
/-- [B -/
def k7 : Class := { plain "[B" (some 0) with kind := .array 6 .byte, interfaces := #[4, 5], accessFlags := 1041 }

/-- the primitive int -/
def k8 : Class := { plain "int" none with kind := .primitive 'I', accessFlags := 0x411 }
/-- [I -/
def k9 : Class := { plain "[I" (some 0) with kind := .array 8 .int, interfaces := #[4, 5], accessFlags := 1041 }

def heap : Heap := #[]
def classes : Array Class := #[k0, k1, k2, k3, k4, k5, k6, k7, k8, k9]
def interned : List (Array UInt16 × Addr) := []
def slotsUsed : Nat := 0
def theMethod : MethodId := ⟨1, 1⟩
def args0 : Array Value := #[.long 5, .long 5, .int 5, .int 5, .int 5]
def aboutOver (below : List Frame) : State where
  vm := { classes := classes, interned := interned.toArray }
  heap := heap
  slotsUsed := slotsUsed
  threads := #[{ frames := .invoking theMethod args0 :: below }]
def below0 : List Frame := [.native { method := ⟨0, 0⟩, args := #[] }]
def about1 : State := aboutOver below0
def p0 : Program := .bare "" "" ""
def e0 : Env := launch0.env 0 0 0
theorem w_frames : about1.frames = Frame.invoking theMethod args0 :: below0 := rfl
set_option maxRecDepth 65536 in
theorem w_args : argsFit about1.vm theMethod args0 = true := by decide +kernel
set_option maxRecDepth 65536 in
theorem w_heap : heapFits about1 = true := by decide +kernel
set_option maxRecDepth 65536 in
theorem w_runnable : about1.curStatus? = some .runnable := by decide +kernel
set_option maxRecDepth 65536 in
theorem w_alone : about1.alone = true := by decide +kernel
set_option maxRecDepth 65536 in
theorem w_named : about1.methodNamed? x = some theMethod := by decide +kernel
set_option maxRecDepth 65536 in
theorem w_hears : about1.hears theMethod below0 = true := by decide +kernel
set_option maxRecDepth 65536 in
theorem w_ripe : about1.ripe theMethod args0 below0 = true := by decide +kernel
theorem w_running : about1.status = .running := rfl
set_option maxRecDepth 65536 in
theorem w_room : about1.hasRoom e0.platform room_1 = true :=
  launch0.hasRoom_least _ room_1 (by decide +kernel) (by decide +kernel) (by decide +kernel) (by decide +kernel) (by decide +kernel) (by decide +kernel)
theorem allAtoms_all (ts : List Jvm.Cond) (a : Array Jvm.Value) (st : Jvm.State) : (allAtoms ts).before a st = ts.all (fun c => c.before a st) := by
  induction ts with
  | nil => rfl
  | cons c t ih =>
    show (Jvm.Cond.and c (allAtoms t)).before a st = _
    rw [Jvm.Cond.before_and, ih, List.all_cons]
def words1 : List Jvm.Cond := Jvm.Cond.code x code maxLocals ret :: tables_1
/-- a 'code' word, met by the world's own term for the bytes: nothing is compared byte by byte -/
theorem code_word {y : MethodName} {bytes : ByteArray} {mx : Nat} {rt : Option FieldType} {a : Array Value} {s : State} {m : MethodId} {meth : Method} {c : Code} (h1 : s.methodNamed? y = some m) (h2 : s.vm.method? m = some meth) (h3 : meth.code = some c) (h4 : c.code = bytes)
    (h5 : (c.maxLocals == mx && c.exceptionTable.isEmpty && decide (c.maxStack ≤ mostOperands) && decide (meth.sig.returnType = rt) && !meth.locks && decide (parseMethodDescriptor y.desc = some meth.sig)) = true) : (Jvm.Cond.code y bytes mx rt).before a s = true := by
  simp only [Bool.and_eq_true, beq_iff_eq, Bool.not_eq_true', decide_eq_true_eq] at h5
  obtain ⟨⟨⟨⟨⟨g1, g2⟩, g3⟩, g4⟩, g5⟩, g6⟩ := h5
  simp [Cond.before, Cond.holds, Cond.value, h1, h2, h3, h4, g1, g2, g3, g4, g5, g6]
def isCode : Jvm.Cond → Bool
  | .code _ _ _ _ => true
  | _ => false
theorem all_split {L : List Jvm.Cond} {P : Jvm.Cond → Bool} (h1 : L.all (fun c => isCode c || P c) = true) (h2 : ∀ c ∈ L.filter isCode, P c = true) : L.all P = true := by
  refine List.all_eq_true.mpr fun c hc => ?_
  have h := List.all_eq_true.mp h1 c hc
  rcases Bool.eq_false_or_eq_true (isCode c) with hi | hi
  · exact h2 c (List.mem_filter.mpr ⟨hc, hi⟩)
  · simpa [hi] using h
set_option maxRecDepth 65536 in
theorem w_c0 : (Jvm.Cond.code x code maxLocals ret).before args0 about1 = true := code_word (m := ⟨1, 1⟩) (meth := k1m1) (c := k1c1) (by decide +kernel) rfl rfl rfl (by decide +kernel)
set_option maxRecDepth 65536 in
theorem w_c1 : (Jvm.Cond.code ({ cls := "com/example/fairlead/fairlead/policy/Percent", name := "reaches", desc := "(JJI)Z" } : Jvm.MethodName) prog_37_method_2_code (5 : Nat) (Option.some Jvm.ClassFile.FieldType.boolean)).before args0 about1 = true := code_word (m := ⟨2, 1⟩) (meth := k2m1) (c := k2c1) (by decide +kernel) rfl rfl rfl (by decide +kernel)
set_option maxRecDepth 65536 in
theorem w_c2 : (Jvm.Cond.code ({ cls := "java/lang/Math", name := "min", desc := "(JJ)J" } : Jvm.MethodName) jdk_29_method_70_code (4 : Nat) (Option.some Jvm.ClassFile.FieldType.long)).before args0 about1 = true := code_word (m := ⟨3, 2⟩) (meth := k3m2) (c := k3c2) (by decide +kernel) rfl rfl rfl (by decide +kernel)
set_option maxRecDepth 65536 in
theorem w_c3 : (Jvm.Cond.code ({ cls := "java/lang/Math", name := "max", desc := "(JJ)J" } : Jvm.MethodName) jdk_29_method_66_code (4 : Nat) (Option.some Jvm.ClassFile.FieldType.long)).before args0 about1 = true := code_word (m := ⟨3, 1⟩) (meth := k3m1) (c := k3c1) (by decide +kernel) rfl rfl rfl (by decide +kernel)
def codes1 : List Jvm.Cond := [Jvm.Cond.code x code maxLocals ret, Jvm.Cond.code ({ cls := "com/example/fairlead/fairlead/policy/Percent", name := "reaches", desc := "(JJI)Z" } : Jvm.MethodName) prog_37_method_2_code (5 : Nat) (Option.some Jvm.ClassFile.FieldType.boolean), Jvm.Cond.code ({ cls := "java/lang/Math", name := "min", desc := "(JJ)J" } : Jvm.MethodName) jdk_29_method_70_code (4 : Nat) (Option.some Jvm.ClassFile.FieldType.long), Jvm.Cond.code ({ cls := "java/lang/Math", name := "max", desc := "(JJ)J" } : Jvm.MethodName) jdk_29_method_66_code (4 : Nat) (Option.some Jvm.ClassFile.FieldType.long)]
set_option maxRecDepth 65536 in
theorem codes_eq : words1.filter isCode = codes1 := rfl
theorem w_codes : ∀ c ∈ words1.filter isCode, c.before args0 about1 = true := by
  rw [codes_eq]
  intro c hc
  simp only [codes1, List.mem_cons, List.not_mem_nil, or_false] at hc
  rcases hc with rfl | rfl | rfl | rfl
  · exact w_c0
  · exact w_c1
  · exact w_c2
  · exact w_c3
set_option maxRecDepth 65536 in
theorem w_t1 : words1.all (fun c => isCode c || c.before args0 about1) = true := by decide +kernel
theorem w_tables : (allAtoms (Jvm.Cond.code x code maxLocals ret :: tables_1)).before args0 about1 = true := by
  rw [allAtoms_all]
  show words1.all (fun c => c.before args0 about1) = true
  refine all_split ?_ w_codes
  rw [w_t1]
set_option maxRecDepth 65536 in
theorem w_case : (Jvm.Cond.and given_1 narrow_1).before args0 about1 = true := by decide +kernel
theorem w_applies : (headSpec (Jvm.Cond.code x code maxLocals ret :: tables_1) room_1).applies x e0.platform about1 = true :=
  (Spec.applies_iff w_frames).mpr ⟨w_running, w_runnable, w_alone, w_named, w_hears, w_ripe, w_room, w_tables⟩
theorem atStart : AtStart classFile x code maxLocals ret World_1 tables_1 room_1 Calls_1 rest_1 Pre_1 launch0 p0 e0 about1 theMethod args0 below0 :=
  ⟨lists_1, trivial, launch0.admits_env _ _ _, launch0.least_env, fairChoices_fair.cas, fairChoices_fair.clock, w_frames, w_args, w_heap, w_applies, trivial, trivial, w_case⟩
end start1
theorem witness_1 : WitnessClaimed_1 := ⟨start1.p0, start1.e0, start1.about1, start1.theMethod, start1.args0, start1.below0, start1.atStart⟩
end Jvm.Pilot.@@N@@
