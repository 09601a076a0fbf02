import JvmDerived
import JvmDerived.Pilot.@@N@@Statement
import JvmDerived.Pilot.@@N@@Code
set_option linter.unusedVariables false
set_option linter.unusedSimpArgs false
@@BLOCK:NumsL.lean.txt@@
namespace Jvm.Pilot.@@N@@
open Jvm Jvm.ClassFile Sem Op Lib Jvm.Free Jvm.Stand Jvm.LawKit Jvm.RoadKit Bundle Jvm.Pilot.@@N@@.Jvm.D

/-! the walk's own small kit: from the frame g over the state T the body comes to its end, with Φ -/
def own_Go (p : Program) (e : Env) (below : List Frame) (T : State) (g : JFrame) (Φ : Outcome → State → Prop) : Prop :=
  ∃ s₂ o, Steps p.tables e below (T.setTop g) s₂ ∧ s₂.status = .running ∧ Ended s₂ below o ∧ Φ o s₂
def own_Fin (s : State) (Q : Option Value → Heap → List Loc → Prop) (k j : Nat) (o : Outcome) (U' : State) : Prop :=
  ∃ v L, o = .returned v ∧ Q v U'.heap L ∧ FrameEnd s o U' L k j
theorem own_by {p : Program} {e : Env} {below : List Frame} {T T' : State} {g g' : JFrame} {Φ : Outcome → State → Prop}
    (h : ∀ t, Steps p.tables e below (T'.setTop g') t → Steps p.tables e below (T.setTop g) t) (k : own_Go p e below T' g' Φ) : own_Go p e below T g Φ := by
  obtain ⟨s₂, o, h1, h2⟩ := k
  exact ⟨s₂, o, h _ h1, h2⟩
theorem own_start {p : Program} {e : Env} {below : List Frame} {s T : State} {g g' : JFrame} {Q : Option Value → Heap → List Loc → Prop} {k j : Nat} (hg : g = g')
    (h : own_Go p e below T g' (own_Fin s Q k j)) : ∃ s₂ o, Steps p.tables e below (T.setTop g) s₂ ∧ s₂.status = .running ∧ Ended s₂ below o ∧ ∃ v L, o = .returned v ∧ Q v s₂.heap L ∧ FrameEnd s o s₂ L k j := by
  subst hg
  exact h
section OwnRet
variable {p : Program} {l : Launch} {e : Env} {R : Room} {s : State} {m : MethodId} {args : Array Value} {below : List Frame} {meth : Method} {c : Code} {T : State} {locs : List Loc} {cells slots : Nat} {Q : Option Value → Heap → List Loc → Prop} {k j pc : Nat} {Ls : Array Slot} {rest : List Value}
theorem own_retN {t : FieldType} (ht : t = .boolean ∨ t = .byte ∨ t = .char ∨ t = .short) (X : Stand p l e R s m args below meth c T locs cells slots) (hx : p.tables.exec = Jvm.exec) (hret : meth.sig.returnType = some t) (hlk : meth.locks = false) {z : Int32} (hd : decode c.code pc = .ok (.ireturn, 1))
    (hz : nar t z = z) (hk : cells ≤ k) (hj : slots ≤ j) (q : Q (some (.int z)) T.heap locs) : own_Go p e below T (mkF m pc Ls (.int z :: rest)) (own_Fin s Q k j) := by
  obtain ⟨fs, hr, hrun, hended, hW, hsame⟩ := X.leave (v := some (.int z)) (fun h => by rw [hret] at h; cases h)
  exact ⟨_, _, retN X hx hret ht hd (by rw [hz]; exact hr), hrun, hended, _, _, rfl, q, ⟨_, rfl⟩, hW, hsame.mono hk hj⟩
theorem own_retZ (X : Stand p l e R s m args below meth c T locs cells slots) (hx : p.tables.exec = Jvm.exec) (hret : meth.sig.returnType = some .boolean) (hlk : meth.locks = false) {z : Int32} (hd : decode c.code pc = .ok (.ireturn, 1))
    (hz : nar .boolean z = z) (hk : cells ≤ k) (hj : slots ≤ j) (q : Q (some (.int z)) T.heap locs) : own_Go p e below T (mkF m pc Ls (.int z :: rest)) (own_Fin s Q k j) := own_retN (Or.inl rfl) X hx hret hlk hd hz hk hj q
theorem own_retI (X : Stand p l e R s m args below meth c T locs cells slots) (hx : p.tables.exec = Jvm.exec) (hret : meth.sig.returnType = some .int) (hlk : meth.locks = false) {z : Int32} (hd : decode c.code pc = .ok (.ireturn, 1))
    (hk : cells ≤ k) (hj : slots ≤ j) (q : Q (some (.int z)) T.heap locs) : own_Go p e below T (mkF m pc Ls (.int z :: rest)) (own_Fin s Q k j) := by
  obtain ⟨fs, hr, hrun, hended, hW, hsame⟩ := X.leave (v := some (.int z)) (fun h => by rw [hret] at h; cases h)
  exact ⟨_, _, retOut X hx hret rfl (Or.inl ⟨rfl, Or.inl rfl, z, rfl⟩) hd hr, hrun, hended, _, _, rfl, q, ⟨_, rfl⟩, hW, hsame.mono hk hj⟩
theorem own_retJ (X : Stand p l e R s m args below meth c T locs cells slots) (hx : p.tables.exec = Jvm.exec) (hret : meth.sig.returnType = some .long) (hlk : meth.locks = false) {z : Int64} (hd : decode c.code pc = .ok (.lreturn, 1))
    (hk : cells ≤ k) (hj : slots ≤ j) (q : Q (some (.long z)) T.heap locs) : own_Go p e below T (mkF m pc Ls (.long z :: rest)) (own_Fin s Q k j) := by
  obtain ⟨fs, hr, hrun, hended, hW, hsame⟩ := X.leave (v := some (.long z)) (fun h => by rw [hret] at h; cases h)
  exact ⟨_, _, retOut X hx hret rfl (Or.inr (Or.inl ⟨rfl, rfl, z, rfl⟩)) hd hr, hrun, hended, _, _, rfl, q, ⟨_, rfl⟩, hW, hsame.mono hk hj⟩
theorem own_retA {t : FieldType} (X : Stand p l e R s m args below meth c T locs cells slots) (hx : p.tables.exec = Jvm.exec) (hret : meth.sig.returnType = some t) (hlk : meth.locks = false) {z : Value} (hd : decode c.code pc = .ok (.areturn, 1))
    (ht : t.isReference = true) (hz : z.isRef = true) (hn : narrow t z = z) (hk : cells ≤ k) (hj : slots ≤ j) (q : Q (some z) T.heap locs) : own_Go p e below T (mkF m pc Ls (z :: rest)) (own_Fin s Q k j) := by
  obtain ⟨fs, hr, hrun, hended, hW, hsame⟩ := X.leave (v := some z) (fun h => by rw [hret] at h; cases h)
  exact ⟨_, _, retOut X hx hret hn (Or.inr (Or.inr (Or.inr (Or.inr ⟨rfl, ht, hz⟩)))) hd hr, hrun, hended, _, _, rfl, q, ⟨_, rfl⟩, hW, hsame.mono hk hj⟩
theorem own_retV (X : Stand p l e R s m args below meth c T locs cells slots) (hx : p.tables.exec = Jvm.exec) (hret : meth.sig.returnType = none) (hlk : meth.locks = false) (hd : decode c.code pc = .ok (.return_, 1))
    (hk : cells ≤ k) (hj : slots ≤ j) (q : Q none T.heap locs) : own_Go p e below T (mkF m pc Ls []) (own_Fin s Q k j) := by
  obtain ⟨fs, hr, hrun, hended, hW, hsame⟩ := X.leave (v := none) (fun _ => rfl)
  exact ⟨_, _, X.returnOut hx hret hd hr, hrun, hended, _, _, rfl, q, ⟨_, rfl⟩, hW, hsame.mono hk hj⟩
theorem own_lrem_eq (x y : Int64) : x - x / y * y = x % y := Int64.toInt_inj.mp (by rw [Jvm.Kit.i64_rem, Int64.toInt_mod])
theorem own_lrem {g : JFrame} {target : State} (X : Stand p l e R s m args below meth c T locs cells slots) (hx : p.tables.exec = Jvm.exec) (hg : g.method = m) {x y : Int64} {rest : List Value} (hd : decode c.code g.pc = .ok (.lrem, 1)) (hs : g.stack = .long y :: .long x :: rest) (hy : y ≠ 0)
    (hr : Steps p.tables e below (T.setTop { g with pc := g.pc + 1, stack := .long (x % y) :: rest }) target) : Steps p.tables e below (T.setTop g) target :=
  XS.lrem X.here hx hg hd hs hy (by rw [own_lrem_eq x y]; exact hr)
end OwnRet
/-! an array: its length, and what each place holds -/
abbrev own_At (j : Int32) (k : Nat) : Prop := ¬ j < 0 ∧ j.toNatClampNeg = k
def own_upd (f : Nat → Value) (k : Nat) (v : Value) : Nat → Value := fun i => if i = k then v else f i
theorem own_upd_hit {f : Nat → Value} {k i : Nat} {v : Value} (h : i = k) : own_upd f k v i = v := if_pos h
theorem own_upd_miss {f : Nat → Value} {k i : Nat} {v : Value} (h : ¬ i = k) : own_upd f k v i = f i := if_neg h
def own_Av (Z : State) (h : Heap) (a : Addr) (ty : FieldType) (n : Nat) (f : Nat → Value) : Prop := ∃ c : Cell, Arr Z h a c ty ∧ c.slots.size = n ∧ ∀ i, i < n → c.slots[i]? = some (f i)
section OwnArr
variable {Z : State} {h h' : Heap} {a b : Addr} {ty : FieldType} {n k sl : Nat} {f : Nat → Value} {v : Value} {ws : List Addr}
theorem own_Av.ext (F : own_Av Z h a ty n f) (E : Ext h h') : own_Av Z h' a ty n f := by obtain ⟨c, A, r⟩ := F; exact ⟨c, A.ext E, r⟩
theorem own_Av.other (F : own_Av Z h b ty n f) (W : Wr h h' a sl v) (q : b ≠ a) : own_Av Z h' b ty n f := by obtain ⟨c, A, r⟩ := F; exact ⟨c, A.other W q, r⟩
theorem own_Av.keep (F : own_Av Z h a ty n f) (K : Keep h h' ws) (q : a ∉ ws) : own_Av Z h' a ty n f := by obtain ⟨c, A, r⟩ := F; exact ⟨c, ⟨K.2.1 a c A.1 q, A.2⟩, r⟩
theorem own_Av.lt (F : own_Av Z h a ty n f) : a < h.size := by obtain ⟨c, A, -⟩ := F; exact A.lt
theorem own_Av.ofnew {z : Int32} {kc : ClassId} {d : Value} (A : Arr Z h a (newA kc ty z) ty) (hn : z.toNatClampNeg = n) (hd : defaultValue ty = d) : own_Av Z h a ty n (fun _ => d) := by
  subst hn hd
  exact ⟨_, A, sz_new _ _ _, fun i hi => by simp [newA, hi]⟩
theorem own_Av.set (F : own_Av Z h a ty n f) (W : Wr h h' a k v) : own_Av Z h' a ty n (own_upd f k v) := by
  obtain ⟨c, A, S, H⟩ := F
  refine ⟨_, A.same W, by rw [sz_set]; exact S, fun i hi => ?_⟩
  by_cases q : i = k
  · subst q
    rw [own_upd_hit rfl]
    simp [Cell.setSlot, S, hi]
  · rw [own_upd_miss q, ← H i hi]
    exact Array.getElem?_setIfInBounds_ne fun u => q u.symm
theorem own_Av.cong {g : Nat → Value} {n' : Nat} (F : own_Av Z h a ty n f) (hn : n = n') (q : ∀ i, i < n → f i = g i) : own_Av Z h a ty n' g := by
  subst hn
  obtain ⟨c, A, S, H⟩ := F
  exact ⟨c, A, S, fun i hi => by rw [← q i hi]; exact H i hi⟩
theorem own_in {j : Int32} (hj : own_At j k) (hk : k < n) {c : Cell} (S : c.slots.size = n) : ¬ (j < 0 ∨ c.slots.size ≤ j.toNatClampNeg) := by
  intro q
  rcases q with q | q
  · exact hj.1 q
  · rw [hj.2, S] at q; omega
variable {p : Program} {l : Launch} {e : Env} {R : Room} {s : State} {m : MethodId} {args : Array Value} {below : List Frame} {meth : Method} {c : Code} {T : State} {locs : List Loc} {cells slots : Nat}
theorem own_ldI (X : Stand p l e R s m args below meth c T locs cells slots) (hx : p.tables.exec = Jvm.exec) (hZ : Z.Warmed39 s.vm) (eT : T.heap = h) (F : own_Av Z h a .int n f) {j : Int32} (hj : own_At j k) (hk : k < n) (hv : f k = v)
    {g : JFrame} (hg : g.method = m) {rest : List Value} (hs : g.stack = .int j :: .ref a :: rest) (hd : decode c.code g.pc = .ok (.iaload, 1)) (t : State)
    (hr : Steps p.tables e below (T.setTop { g with pc := g.pc + 1, stack := v :: rest }) t) : Steps p.tables e below (T.setTop g) t := by
  obtain ⟨cl, A, S, H⟩ := F
  exact X.iaload hx (by rw [eT]; exact A.1) (State.isArrayOf_alike hZ.alike A.2.1) A.2.2 (own_in hj hk S) (by rw [hj.2, H k hk, hv]) hg hs hd t hr
theorem own_ldJ (X : Stand p l e R s m args below meth c T locs cells slots) (hx : p.tables.exec = Jvm.exec) (hZ : Z.Warmed39 s.vm) (eT : T.heap = h) (F : own_Av Z h a .long n f) {j : Int32} (hj : own_At j k) (hk : k < n) (hv : f k = v)
    {g : JFrame} (hg : g.method = m) {rest : List Value} (hs : g.stack = .int j :: .ref a :: rest) (hd : decode c.code g.pc = .ok (.laload, 1)) (t : State)
    (hr : Steps p.tables e below (T.setTop { g with pc := g.pc + 1, stack := v :: rest }) t) : Steps p.tables e below (T.setTop g) t := by
  obtain ⟨cl, A, S, H⟩ := F
  exact X.laload hx (by rw [eT]; exact A.1) (State.isArrayOf_alike hZ.alike A.2.1) A.2.2 (own_in hj hk S) (by rw [hj.2, H k hk, hv]) hg hs hd t hr
theorem own_ldS (X : Stand p l e R s m args below meth c T locs cells slots) (hx : p.tables.exec = Jvm.exec) (hZ : Z.Warmed39 s.vm) (eT : T.heap = h) (F : own_Av Z h a .short n f) {j : Int32} (hj : own_At j k) (hk : k < n) (hv : f k = v)
    {g : JFrame} (hg : g.method = m) {rest : List Value} (hs : g.stack = .int j :: .ref a :: rest) (hd : decode c.code g.pc = .ok (.saload, 1)) (t : State)
    (hr : Steps p.tables e below (T.setTop { g with pc := g.pc + 1, stack := v :: rest }) t) : Steps p.tables e below (T.setTop g) t := by
  obtain ⟨cl, A, S, H⟩ := F
  exact X.saload hx (by rw [eT]; exact A.1) (State.isArrayOf_alike hZ.alike A.2.1) A.2.2 (own_in hj hk S) (by rw [hj.2, H k hk, hv]) hg hs hd t hr
theorem own_ldC (X : Stand p l e R s m args below meth c T locs cells slots) (hx : p.tables.exec = Jvm.exec) (hZ : Z.Warmed39 s.vm) (eT : T.heap = h) (F : own_Av Z h a .char n f) {j : Int32} (hj : own_At j k) (hk : k < n) (hv : f k = v)
    {g : JFrame} (hg : g.method = m) {rest : List Value} (hs : g.stack = .int j :: .ref a :: rest) (hd : decode c.code g.pc = .ok (.caload, 1)) (t : State)
    (hr : Steps p.tables e below (T.setTop { g with pc := g.pc + 1, stack := v :: rest }) t) : Steps p.tables e below (T.setTop g) t := by
  obtain ⟨cl, A, S, H⟩ := F
  exact X.caload hx (by rw [eT]; exact A.1) (State.isArrayOf_alike hZ.alike A.2.1) A.2.2 (own_in hj hk S) (by rw [hj.2, H k hk, hv]) hg hs hd t hr
theorem own_ldB (X : Stand p l e R s m args below meth c T locs cells slots) (hx : p.tables.exec = Jvm.exec) (hZ : Z.Warmed39 s.vm) (eT : T.heap = h) (F : own_Av Z h a .byte n f) {j : Int32} (hj : own_At j k) (hk : k < n) (hv : f k = v)
    {g : JFrame} (hg : g.method = m) {rest : List Value} (hs : g.stack = .int j :: .ref a :: rest) (hd : decode c.code g.pc = .ok (.baload, 1)) (t : State)
    (hr : Steps p.tables e below (T.setTop { g with pc := g.pc + 1, stack := v :: rest }) t) : Steps p.tables e below (T.setTop g) t := by
  obtain ⟨cl, A, S, H⟩ := F
  exact X.baloadBytes hx (by rw [eT]; exact A.1) (State.isArrayOf_alike hZ.alike A.2.1) A.2.2 (own_in hj hk S) (by rw [hj.2, H k hk, hv]) hg hs hd t hr
theorem own_ldZ (X : Stand p l e R s m args below meth c T locs cells slots) (hx : p.tables.exec = Jvm.exec) (hZ : Z.Warmed39 s.vm) (eT : T.heap = h) (F : own_Av Z h a .boolean n f) {j : Int32} (hj : own_At j k) (hk : k < n) (hv : f k = v)
    {g : JFrame} (hg : g.method = m) {rest : List Value} (hs : g.stack = .int j :: .ref a :: rest) (hd : decode c.code g.pc = .ok (.baload, 1)) (t : State)
    (hr : Steps p.tables e below (T.setTop { g with pc := g.pc + 1, stack := v :: rest }) t) : Steps p.tables e below (T.setTop g) t := by
  obtain ⟨cl, A, S, H⟩ := F
  exact X.baloadBooleans hx (by rw [eT]; exact A.1) (State.isArrayOf_alike hZ.alike A.2.1) A.2.2 (own_in hj hk S) (by rw [hj.2, H k hk, hv]) hg hs hd t hr
theorem own_len (X : Stand p l e R s m args below meth c T locs cells slots) (hx : p.tables.exec = Jvm.exec) (hZ : Z.Warmed39 s.vm) (eT : T.heap = h) (F : own_Av Z h a ty n f) {z : Int32} (hz : n.toInt32 = z)
    {g : JFrame} (hg : g.method = m) {rest : List Value} (hs : g.stack = .ref a :: rest) (hd : decode c.code g.pc = .ok (.arraylength, 1)) (t : State)
    (hr : Steps p.tables e below (T.setTop { g with pc := g.pc + 1, stack := .int z :: rest }) t) : Steps p.tables e below (T.setTop g) t := by
  obtain ⟨cl, A, S, H⟩ := F
  exact X.arraylength hx (by rw [eT]; exact A.1) (State.isArrayOf_alike hZ.alike A.2.1) hg hs hd t (by rw [S, hz]; exact hr)
theorem own_stI (X : Stand p l e R s m args below meth c T locs cells slots) (hx : p.tables.exec = Jvm.exec) (hZ : Z.Warmed39 s.vm) (eT : T.heap = h) (F : own_Av Z h a .int n f) {j x : Int32} (hj : own_At j k) (hk : k < n)
    {g : JFrame} (hg : g.method = m) {rest : List Value} (hs : g.stack = .int x :: .int j :: .ref a :: rest) (hd : decode c.code g.pc = .ok (.iastore, 1)) :
    ∃ T' h', Stand p l e R s m args below meth c T' (locs ++ [⟨a, k⟩]) cells slots ∧ T'.heap = h' ∧ Wr h h' a k (.int x) ∧ own_Av Z h' a .int n (own_upd f k (.int x)) ∧ ∀ target, Steps p.tables e below (T'.setTop { g with pc := g.pc + 1, stack := rest }) target → Steps p.tables e below (T.setTop g) target := by
  obtain ⟨cl, A, S, H⟩ := id F
  obtain ⟨T', h', X', e', W', st⟩ := stI X hx hZ eT A (own_in hj hk S) hg hs hd
  rw [hj.2] at X' W'
  exact ⟨T', h', X', e', W', F.set W', st⟩
theorem own_stJ (X : Stand p l e R s m args below meth c T locs cells slots) (hx : p.tables.exec = Jvm.exec) (hZ : Z.Warmed39 s.vm) (eT : T.heap = h) (F : own_Av Z h a .long n f) {j : Int32} {x : Int64} (hj : own_At j k) (hk : k < n)
    {g : JFrame} (hg : g.method = m) {rest : List Value} (hs : g.stack = .long x :: .int j :: .ref a :: rest) (hd : decode c.code g.pc = .ok (.lastore, 1)) :
    ∃ T' h', Stand p l e R s m args below meth c T' (locs ++ [⟨a, k⟩]) cells slots ∧ T'.heap = h' ∧ Wr h h' a k (.long x) ∧ own_Av Z h' a .long n (own_upd f k (.long x)) ∧ ∀ target, Steps p.tables e below (T'.setTop { g with pc := g.pc + 1, stack := rest }) target → Steps p.tables e below (T.setTop g) target := by
  obtain ⟨cl, A, S, H⟩ := id F
  obtain ⟨T', h', X', e', W', st⟩ := stJ X hx hZ eT A (own_in hj hk S) hg hs hd
  rw [hj.2] at X' W'
  exact ⟨T', h', X', e', W', F.set W', st⟩
theorem own_stB (X : Stand p l e R s m args below meth c T locs cells slots) (hx : p.tables.exec = Jvm.exec) (hZ : Z.Warmed39 s.vm) (eT : T.heap = h) (F : own_Av Z h a .byte n f) {j x : Int32} (hj : own_At j k) (hk : k < n)
    {g : JFrame} (hg : g.method = m) {rest : List Value} (hs : g.stack = .int x :: .int j :: .ref a :: rest) (hd : decode c.code g.pc = .ok (.bastore, 1)) :
    ∃ T' h', Stand p l e R s m args below meth c T' (locs ++ [⟨a, k⟩]) cells slots ∧ T'.heap = h' ∧ Wr h h' a k (.int x.toInt8.toInt32) ∧ own_Av Z h' a .byte n (own_upd f k (.int x.toInt8.toInt32)) ∧ ∀ target, Steps p.tables e below (T'.setTop { g with pc := g.pc + 1, stack := rest }) target → Steps p.tables e below (T.setTop g) target := by
  obtain ⟨cl, A, S, H⟩ := id F
  obtain ⟨T', h', X', e', W', st⟩ := stB X hx hZ eT A (own_in hj hk S) hg hs hd
  rw [hj.2] at X' W'
  exact ⟨T', h', X', e', W', F.set W', st⟩
theorem own_stZ (X : Stand p l e R s m args below meth c T locs cells slots) (hx : p.tables.exec = Jvm.exec) (hZ : Z.Warmed39 s.vm) (eT : T.heap = h) (F : own_Av Z h a .boolean n f) {j x : Int32} (hj : own_At j k) (hk : k < n)
    {g : JFrame} (hg : g.method = m) {rest : List Value} (hs : g.stack = .int x :: .int j :: .ref a :: rest) (hd : decode c.code g.pc = .ok (.bastore, 1)) :
    ∃ T' h', Stand p l e R s m args below meth c T' (locs ++ [⟨a, k⟩]) cells slots ∧ T'.heap = h' ∧ Wr h h' a k (.int (x &&& 1)) ∧ own_Av Z h' a .boolean n (own_upd f k (.int (x &&& 1))) ∧ ∀ target, Steps p.tables e below (T'.setTop { g with pc := g.pc + 1, stack := rest }) target → Steps p.tables e below (T.setTop g) target := by
  obtain ⟨cl, A, S, H⟩ := id F
  obtain ⟨T', h', X', e', W', st⟩ := stZ X hx hZ eT A (own_in hj hk S) hg hs hd
  rw [hj.2] at X' W'
  exact ⟨T', h', X', e', W', F.set W', st⟩
theorem own_stC (X : Stand p l e R s m args below meth c T locs cells slots) (hx : p.tables.exec = Jvm.exec) (hZ : Z.Warmed39 s.vm) (eT : T.heap = h) (F : own_Av Z h a .char n f) {j x : Int32} (hj : own_At j k) (hk : k < n)
    {g : JFrame} (hg : g.method = m) {rest : List Value} (hs : g.stack = .int x :: .int j :: .ref a :: rest) (hd : decode c.code g.pc = .ok (.castore, 1)) :
    ∃ T' h', Stand p l e R s m args below meth c T' (locs ++ [⟨a, k⟩]) cells slots ∧ T'.heap = h' ∧ Wr h h' a k (.int (nar .char x)) ∧ own_Av Z h' a .char n (own_upd f k (.int (nar .char x))) ∧ ∀ target, Steps p.tables e below (T'.setTop { g with pc := g.pc + 1, stack := rest }) target → Steps p.tables e below (T.setTop g) target := by
  obtain ⟨cl, A, S, H⟩ := id F
  obtain ⟨T', h', X', e', W', st⟩ := stC X hx hZ eT A (own_in hj hk S) hg hs hd
  rw [hj.2] at X' W'
  exact ⟨T', h', X', e', W', F.set W', st⟩
theorem own_stS (X : Stand p l e R s m args below meth c T locs cells slots) (hx : p.tables.exec = Jvm.exec) (hZ : Z.Warmed39 s.vm) (eT : T.heap = h) (F : own_Av Z h a .short n f) {j x : Int32} (hj : own_At j k) (hk : k < n)
    {g : JFrame} (hg : g.method = m) {rest : List Value} (hs : g.stack = .int x :: .int j :: .ref a :: rest) (hd : decode c.code g.pc = .ok (.sastore, 1)) :
    ∃ T' h', Stand p l e R s m args below meth c T' (locs ++ [⟨a, k⟩]) cells slots ∧ T'.heap = h' ∧ Wr h h' a k (.int (nar .short x)) ∧ own_Av Z h' a .short n (own_upd f k (.int (nar .short x))) ∧ ∀ target, Steps p.tables e below (T'.setTop { g with pc := g.pc + 1, stack := rest }) target → Steps p.tables e below (T.setTop g) target := by
  obtain ⟨cl, A, S, H⟩ := id F
  obtain ⟨T', h', X', e', W', st⟩ := stS X hx hZ eT A (own_in hj hk S) hg hs hd
  rw [hj.2] at X' W'
  exact ⟨T', h', X', e', W', F.set W', st⟩
end OwnArr
theorem own_selP {Z s : State} {a0 args : Array Value} {y : MethodName} {n : Nat} (hZ : Z.Warmed39 s.vm) (wi : (Cond.instantiable y.cls n).before a0 Z = true) (wp : (Cond.privateMethod y).before a0 Z = true) (wm : (Cond.instanceMethod y).before a0 Z = true)
    (hy : y.cls ≠ "java/lang/invoke/MethodHandle" ∧ y.cls ≠ "java/lang/invoke/VarHandle") : (Cond.selects y.cls y y).before args s = true := by
  have w : (Cond.instantiable y.cls n).before args s = true := mvT hZ wi
  obtain ⟨c, k, h1, h2, -, h4, -⟩ := Cond.instantiable_spec w
  exact Jvm.Stand.selects_self_of_private h1 h2 (Bool.or_eq_false_iff.mp h4).1 (Cond.privateMethod_at (mvP hZ wp (args := args))) (mvT hZ wm) hy
theorem own_narZ {x : Int32} (h : x &&& 1 = x) : narrow .boolean (.int x) = .int x := by
  show Value.int (x &&& 1) = _
  rw [h]
theorem own_fitZ {x : Int32} (h : x &&& 1 = x) : fits .boolean (.int x) = true := by
  have q := fits_nar_bool x
  rw [show nar .boolean x = x from h] at q
  exact q
theorem own_mono {p : Program} {e : Env} {below : List Frame} {s T : State} {g : JFrame} {Q Q' : Option Value → Heap → List Loc → Prop} {k j : Nat} (h : ∀ v h L, Q v h L → Q' v h L) (G : own_Go p e below T g (own_Fin s Q k j)) : own_Go p e below T g (own_Fin s Q' k j) := by
  obtain ⟨s₂, o, h1, h2, h3, v, L, h4, h5, h6⟩ := G
  exact ⟨s₂, o, h1, h2, h3, v, L, h4, h _ _ _ h5, h6⟩
theorem own_ofs (i : Nat) : Int32.ofNat i + (1 : Int32) = Int32.ofNat (i + 1) := (Int32.ofNat_add i 1).symm
theorem own_toI {i : Nat} (h : i < 2147483648) : (Int32.ofNat i).toInt = i := Int32.toInt_ofNat_small h
theorem own_ix {i : Nat} (h : i < 2147483648) : own_At (Int32.ofNat i) i := by
  have e := own_toI h
  refine ⟨?_, ?_⟩
  · rw [Int32.lt_iff_toInt_lt, e, show (0 : Int32).toInt = 0 from by decide]; omega
  · simp only [Int32.toNatClampNeg, e]; omega
theorem own_oflt {i n : Nat} (hi : i < 2147483648) (hn : n < 2147483648) : Int32.ofNat i < Int32.ofNat n ↔ i < n := by
  rw [Int32.lt_iff_toInt_lt, own_toI hi, own_toI hn]; omega
theorem own_ofeq {i n : Nat} (hi : i < 2147483648) (hn : n < 2147483648) : Int32.ofNat i = Int32.ofNat n ↔ i = n := by
  rw [← Int32.toInt_inj, own_toI hi, own_toI hn]; omega
def own_fl (F : Nat → Int32) (i : Nat) (g : Nat → Value) (j : Nat) : Value := if j < i then .int (F j) else g j
theorem own_fl_up (F : Nat → Int32) (i : Nat) (g : Nat → Value) : ∀ j, own_upd (own_fl F i g) i (.int (F i)) j = own_fl F (i + 1) g j := fun j => by
  unfold own_fl
  by_cases q : j = i
  · subst q; rw [own_upd_hit rfl, if_pos (by omega)]
  · rw [own_upd_miss q]
    by_cases q2 : j < i
    · rw [if_pos q2, if_pos (by omega)]
    · rw [if_neg q2, if_neg (by omega)]
theorem own_fl0 (F : Nat → Int32) (g : Nat → Value) : ∀ j, g j = own_fl F 0 g j := fun j => by unfold own_fl; rw [if_neg (by omega)]
theorem own_fl_in {F : Nat → Int32} {i j : Nat} {g : Nat → Value} (h : j < i) : own_fl F i g j = .int (F j) := if_pos h
theorem own_fl_out {F : Nat → Int32} {i j : Nat} {g : Nat → Value} (h : ¬ j < i) : own_fl F i g j = g j := if_neg h

/-! single steps over own_Go -/
theorem own_s_iadd {p : Program} {e : Env} {below : List Frame} {T : State} {m : MethodId} {c : Code} {Φ : Outcome → State → Prop} {pc : Nat} {L : Array Slot} {S : List Value} (h : At T m c below) (hx : p.tables.exec = Jvm.exec) {x y : Int32} (hd : decode c.code pc = .ok (.iadd, 1)) (G : own_Go p e below T (mkF m (pc + 1) L (.int (x + y) :: S)) Φ) : own_Go p e below T (mkF m pc L (.int y :: .int x :: S)) Φ := own_by (fun t k => XS.iadd h hx rfl hd rfl k) G
theorem own_s_isub {p : Program} {e : Env} {below : List Frame} {T : State} {m : MethodId} {c : Code} {Φ : Outcome → State → Prop} {pc : Nat} {L : Array Slot} {S : List Value} (h : At T m c below) (hx : p.tables.exec = Jvm.exec) {x y : Int32} (hd : decode c.code pc = .ok (.isub, 1)) (G : own_Go p e below T (mkF m (pc + 1) L (.int (x - y) :: S)) Φ) : own_Go p e below T (mkF m pc L (.int y :: .int x :: S)) Φ := own_by (fun t k => XS.isub h hx rfl hd rfl k) G
theorem own_s_imul {p : Program} {e : Env} {below : List Frame} {T : State} {m : MethodId} {c : Code} {Φ : Outcome → State → Prop} {pc : Nat} {L : Array Slot} {S : List Value} (h : At T m c below) (hx : p.tables.exec = Jvm.exec) {x y : Int32} (hd : decode c.code pc = .ok (.imul, 1)) (G : own_Go p e below T (mkF m (pc + 1) L (.int (x * y) :: S)) Φ) : own_Go p e below T (mkF m pc L (.int y :: .int x :: S)) Φ := own_by (fun t k => XS.imul h hx rfl hd rfl k) G
theorem own_s_iand {p : Program} {e : Env} {below : List Frame} {T : State} {m : MethodId} {c : Code} {Φ : Outcome → State → Prop} {pc : Nat} {L : Array Slot} {S : List Value} (h : At T m c below) (hx : p.tables.exec = Jvm.exec) {x y : Int32} (hd : decode c.code pc = .ok (.iand, 1)) (G : own_Go p e below T (mkF m (pc + 1) L (.int (x &&& y) :: S)) Φ) : own_Go p e below T (mkF m pc L (.int y :: .int x :: S)) Φ := own_by (fun t k => XS.iand h hx rfl hd rfl k) G
theorem own_s_ior {p : Program} {e : Env} {below : List Frame} {T : State} {m : MethodId} {c : Code} {Φ : Outcome → State → Prop} {pc : Nat} {L : Array Slot} {S : List Value} (h : At T m c below) (hx : p.tables.exec = Jvm.exec) {x y : Int32} (hd : decode c.code pc = .ok (.ior, 1)) (G : own_Go p e below T (mkF m (pc + 1) L (.int (x ||| y) :: S)) Φ) : own_Go p e below T (mkF m pc L (.int y :: .int x :: S)) Φ := own_by (fun t k => XS.ior h hx rfl hd rfl k) G
theorem own_s_ixor {p : Program} {e : Env} {below : List Frame} {T : State} {m : MethodId} {c : Code} {Φ : Outcome → State → Prop} {pc : Nat} {L : Array Slot} {S : List Value} (h : At T m c below) (hx : p.tables.exec = Jvm.exec) {x y : Int32} (hd : decode c.code pc = .ok (.ixor, 1)) (G : own_Go p e below T (mkF m (pc + 1) L (.int (x ^^^ y) :: S)) Φ) : own_Go p e below T (mkF m pc L (.int y :: .int x :: S)) Φ := own_by (fun t k => XS.ixor h hx rfl hd rfl k) G
theorem own_s_ladd {p : Program} {e : Env} {below : List Frame} {T : State} {m : MethodId} {c : Code} {Φ : Outcome → State → Prop} {pc : Nat} {L : Array Slot} {S : List Value} (h : At T m c below) (hx : p.tables.exec = Jvm.exec) {x y : Int64} (hd : decode c.code pc = .ok (.ladd, 1)) (G : own_Go p e below T (mkF m (pc + 1) L (.long (x + y) :: S)) Φ) : own_Go p e below T (mkF m pc L (.long y :: .long x :: S)) Φ := own_by (fun t k => XS.ladd h hx rfl hd rfl k) G
theorem own_s_lsub {p : Program} {e : Env} {below : List Frame} {T : State} {m : MethodId} {c : Code} {Φ : Outcome → State → Prop} {pc : Nat} {L : Array Slot} {S : List Value} (h : At T m c below) (hx : p.tables.exec = Jvm.exec) {x y : Int64} (hd : decode c.code pc = .ok (.lsub, 1)) (G : own_Go p e below T (mkF m (pc + 1) L (.long (x - y) :: S)) Φ) : own_Go p e below T (mkF m pc L (.long y :: .long x :: S)) Φ := own_by (fun t k => XS.lsub h hx rfl hd rfl k) G
theorem own_s_lmul {p : Program} {e : Env} {below : List Frame} {T : State} {m : MethodId} {c : Code} {Φ : Outcome → State → Prop} {pc : Nat} {L : Array Slot} {S : List Value} (h : At T m c below) (hx : p.tables.exec = Jvm.exec) {x y : Int64} (hd : decode c.code pc = .ok (.lmul, 1)) (G : own_Go p e below T (mkF m (pc + 1) L (.long (x * y) :: S)) Φ) : own_Go p e below T (mkF m pc L (.long y :: .long x :: S)) Φ := own_by (fun t k => XS.lmul h hx rfl hd rfl k) G
theorem own_s_land {p : Program} {e : Env} {below : List Frame} {T : State} {m : MethodId} {c : Code} {Φ : Outcome → State → Prop} {pc : Nat} {L : Array Slot} {S : List Value} (h : At T m c below) (hx : p.tables.exec = Jvm.exec) {x y : Int64} (hd : decode c.code pc = .ok (.land, 1)) (G : own_Go p e below T (mkF m (pc + 1) L (.long (x &&& y) :: S)) Φ) : own_Go p e below T (mkF m pc L (.long y :: .long x :: S)) Φ := own_by (fun t k => XS.land h hx rfl hd rfl k) G
theorem own_s_lor {p : Program} {e : Env} {below : List Frame} {T : State} {m : MethodId} {c : Code} {Φ : Outcome → State → Prop} {pc : Nat} {L : Array Slot} {S : List Value} (h : At T m c below) (hx : p.tables.exec = Jvm.exec) {x y : Int64} (hd : decode c.code pc = .ok (.lor, 1)) (G : own_Go p e below T (mkF m (pc + 1) L (.long (x ||| y) :: S)) Φ) : own_Go p e below T (mkF m pc L (.long y :: .long x :: S)) Φ := own_by (fun t k => XS.lor h hx rfl hd rfl k) G
theorem own_s_lxor {p : Program} {e : Env} {below : List Frame} {T : State} {m : MethodId} {c : Code} {Φ : Outcome → State → Prop} {pc : Nat} {L : Array Slot} {S : List Value} (h : At T m c below) (hx : p.tables.exec = Jvm.exec) {x y : Int64} (hd : decode c.code pc = .ok (.lxor, 1)) (G : own_Go p e below T (mkF m (pc + 1) L (.long (x ^^^ y) :: S)) Φ) : own_Go p e below T (mkF m pc L (.long y :: .long x :: S)) Φ := own_by (fun t k => XS.lxor h hx rfl hd rfl k) G
theorem own_s_ishl {p : Program} {e : Env} {below : List Frame} {T : State} {m : MethodId} {c : Code} {Φ : Outcome → State → Prop} {pc : Nat} {L : Array Slot} {S : List Value} (h : At T m c below) (hx : p.tables.exec = Jvm.exec) {x y : Int32} (hd : decode c.code pc = .ok (.ishl, 1)) (G : own_Go p e below T (mkF m (pc + 1) L (.int (x <<< (y &&& 31)) :: S)) Φ) : own_Go p e below T (mkF m pc L (.int y :: .int x :: S)) Φ := own_by (fun t k => XS.ishl h hx rfl hd rfl k) G
theorem own_s_ishr {p : Program} {e : Env} {below : List Frame} {T : State} {m : MethodId} {c : Code} {Φ : Outcome → State → Prop} {pc : Nat} {L : Array Slot} {S : List Value} (h : At T m c below) (hx : p.tables.exec = Jvm.exec) {x y : Int32} (hd : decode c.code pc = .ok (.ishr, 1)) (G : own_Go p e below T (mkF m (pc + 1) L (.int (x >>> (y &&& 31)) :: S)) Φ) : own_Go p e below T (mkF m pc L (.int y :: .int x :: S)) Φ := own_by (fun t k => XS.ishr h hx rfl hd rfl k) G
theorem own_s_iushr {p : Program} {e : Env} {below : List Frame} {T : State} {m : MethodId} {c : Code} {Φ : Outcome → State → Prop} {pc : Nat} {L : Array Slot} {S : List Value} (h : At T m c below) (hx : p.tables.exec = Jvm.exec) {x y : Int32} (hd : decode c.code pc = .ok (.iushr, 1)) (G : own_Go p e below T (mkF m (pc + 1) L (.int ((x.toUInt32 >>> (y &&& 31).toUInt32).toInt32) :: S)) Φ) : own_Go p e below T (mkF m pc L (.int y :: .int x :: S)) Φ := own_by (fun t k => XS.iushr h hx rfl hd rfl k) G
theorem own_s_lshl {p : Program} {e : Env} {below : List Frame} {T : State} {m : MethodId} {c : Code} {Φ : Outcome → State → Prop} {pc : Nat} {L : Array Slot} {S : List Value} (h : At T m c below) (hx : p.tables.exec = Jvm.exec) {x : Int64} {y : Int32} (hd : decode c.code pc = .ok (.lshl, 1)) (G : own_Go p e below T (mkF m (pc + 1) L (.long (x <<< (y &&& 0x3f).toInt64) :: S)) Φ) : own_Go p e below T (mkF m pc L (.int y :: .long x :: S)) Φ := own_by (fun t k => XS.lshl h hx rfl hd rfl k) G
theorem own_s_lshr {p : Program} {e : Env} {below : List Frame} {T : State} {m : MethodId} {c : Code} {Φ : Outcome → State → Prop} {pc : Nat} {L : Array Slot} {S : List Value} (h : At T m c below) (hx : p.tables.exec = Jvm.exec) {x : Int64} {y : Int32} (hd : decode c.code pc = .ok (.lshr, 1)) (G : own_Go p e below T (mkF m (pc + 1) L (.long (x >>> (y &&& 0x3f).toInt64) :: S)) Φ) : own_Go p e below T (mkF m pc L (.int y :: .long x :: S)) Φ := own_by (fun t k => XS.lshr h hx rfl hd rfl k) G
theorem own_s_lushr {p : Program} {e : Env} {below : List Frame} {T : State} {m : MethodId} {c : Code} {Φ : Outcome → State → Prop} {pc : Nat} {L : Array Slot} {S : List Value} (h : At T m c below) (hx : p.tables.exec = Jvm.exec) {x : Int64} {y : Int32} (hd : decode c.code pc = .ok (.lushr, 1)) (G : own_Go p e below T (mkF m (pc + 1) L (.long ((x.toUInt64 >>> (y &&& 0x3f).toInt64.toUInt64).toInt64) :: S)) Φ) : own_Go p e below T (mkF m pc L (.int y :: .long x :: S)) Φ := own_by (fun t k => XS.lushr h hx rfl hd rfl k) G
theorem own_s_ineg {p : Program} {e : Env} {below : List Frame} {T : State} {m : MethodId} {c : Code} {Φ : Outcome → State → Prop} {pc : Nat} {L : Array Slot} {S : List Value} (h : At T m c below) (hx : p.tables.exec = Jvm.exec) {x : Int32} (hd : decode c.code pc = .ok (.ineg, 1)) (G : own_Go p e below T (mkF m (pc + 1) L (.int (-x) :: S)) Φ) : own_Go p e below T (mkF m pc L (.int x :: S)) Φ := own_by (fun t k => XS.ineg h hx rfl hd rfl k) G
theorem own_s_lneg {p : Program} {e : Env} {below : List Frame} {T : State} {m : MethodId} {c : Code} {Φ : Outcome → State → Prop} {pc : Nat} {L : Array Slot} {S : List Value} (h : At T m c below) (hx : p.tables.exec = Jvm.exec) {x : Int64} (hd : decode c.code pc = .ok (.lneg, 1)) (G : own_Go p e below T (mkF m (pc + 1) L (.long (-x) :: S)) Φ) : own_Go p e below T (mkF m pc L (.long x :: S)) Φ := own_by (fun t k => XS.lneg h hx rfl hd rfl k) G
theorem own_s_i2l {p : Program} {e : Env} {below : List Frame} {T : State} {m : MethodId} {c : Code} {Φ : Outcome → State → Prop} {pc : Nat} {L : Array Slot} {S : List Value} (h : At T m c below) (hx : p.tables.exec = Jvm.exec) {x : Int32} (hd : decode c.code pc = .ok (.i2l, 1)) (G : own_Go p e below T (mkF m (pc + 1) L (.long (x.toInt64) :: S)) Φ) : own_Go p e below T (mkF m pc L (.int x :: S)) Φ := own_by (fun t k => XS.i2l h hx rfl hd rfl k) G
theorem own_s_l2i {p : Program} {e : Env} {below : List Frame} {T : State} {m : MethodId} {c : Code} {Φ : Outcome → State → Prop} {pc : Nat} {L : Array Slot} {S : List Value} (h : At T m c below) (hx : p.tables.exec = Jvm.exec) {x : Int64} (hd : decode c.code pc = .ok (.l2i, 1)) (G : own_Go p e below T (mkF m (pc + 1) L (.int (x.toInt32) :: S)) Φ) : own_Go p e below T (mkF m pc L (.long x :: S)) Φ := own_by (fun t k => XS.l2i h hx rfl hd rfl k) G
theorem own_s_i2b {p : Program} {e : Env} {below : List Frame} {T : State} {m : MethodId} {c : Code} {Φ : Outcome → State → Prop} {pc : Nat} {L : Array Slot} {S : List Value} (h : At T m c below) (hx : p.tables.exec = Jvm.exec) {x : Int32} (hd : decode c.code pc = .ok (.i2b, 1)) (G : own_Go p e below T (mkF m (pc + 1) L (.int (x.toInt8.toInt32) :: S)) Φ) : own_Go p e below T (mkF m pc L (.int x :: S)) Φ := own_by (fun t k => XS.i2b h hx rfl hd rfl k) G
theorem own_s_i2s {p : Program} {e : Env} {below : List Frame} {T : State} {m : MethodId} {c : Code} {Φ : Outcome → State → Prop} {pc : Nat} {L : Array Slot} {S : List Value} (h : At T m c below) (hx : p.tables.exec = Jvm.exec) {x : Int32} (hd : decode c.code pc = .ok (.i2s, 1)) (G : own_Go p e below T (mkF m (pc + 1) L (.int (x.toInt16.toInt32) :: S)) Φ) : own_Go p e below T (mkF m pc L (.int x :: S)) Φ := own_by (fun t k => XS.i2s h hx rfl hd rfl k) G
theorem own_s_i2c {p : Program} {e : Env} {below : List Frame} {T : State} {m : MethodId} {c : Code} {Φ : Outcome → State → Prop} {pc : Nat} {L : Array Slot} {S : List Value} (h : At T m c below) (hx : p.tables.exec = Jvm.exec) {x : Int32} (hd : decode c.code pc = .ok (.i2c, 1)) (G : own_Go p e below T (mkF m (pc + 1) L (.int (x.toUInt32.toUInt16.toUInt32.toInt32) :: S)) Φ) : own_Go p e below T (mkF m pc L (.int x :: S)) Φ := own_by (fun t k => XS.i2c h hx rfl hd rfl k) G
theorem own_s_iloadN {p : Program} {e : Env} {below : List Frame} {T : State} {m : MethodId} {c : Code} {Φ : Outcome → State → Prop} {pc : Nat} {L : Array Slot} {S : List Value} (h : At T m c below) (hx : p.tables.exec = Jvm.exec) {i : Fin 4} {v : Int32} (hd : decode c.code pc = .ok (.iload_n i, 1)) (hl : L[i.val]? = some (.val (.int v))) (G : own_Go p e below T (mkF m (pc + 1) L (.int v :: S)) Φ) : own_Go p e below T (mkF m pc L S) Φ := own_by (fun t k => XS.iloadN h hx rfl hd hl k) G
theorem own_s_iload {p : Program} {e : Env} {below : List Frame} {T : State} {m : MethodId} {c : Code} {Φ : Outcome → State → Prop} {pc : Nat} {L : Array Slot} {S : List Value} (h : At T m c below) (hx : p.tables.exec = Jvm.exec) {i : Nat} {v : Int32} (hd : decode c.code pc = .ok (.iload i, 2)) (hl : L[i]? = some (.val (.int v))) (G : own_Go p e below T (mkF m (pc + 2) L (.int v :: S)) Φ) : own_Go p e below T (mkF m pc L S) Φ := own_by (fun t k => XS.iload h hx rfl hd hl k) G
theorem own_s_lloadN {p : Program} {e : Env} {below : List Frame} {T : State} {m : MethodId} {c : Code} {Φ : Outcome → State → Prop} {pc : Nat} {L : Array Slot} {S : List Value} (h : At T m c below) (hx : p.tables.exec = Jvm.exec) {i : Fin 4} {v : Int64} (hd : decode c.code pc = .ok (.lload_n i, 1)) (hl : L[i.val]? = some (.val (.long v))) (G : own_Go p e below T (mkF m (pc + 1) L (.long v :: S)) Φ) : own_Go p e below T (mkF m pc L S) Φ := own_by (fun t k => XS.lloadN h hx rfl hd hl k) G
theorem own_s_lload {p : Program} {e : Env} {below : List Frame} {T : State} {m : MethodId} {c : Code} {Φ : Outcome → State → Prop} {pc : Nat} {L : Array Slot} {S : List Value} (h : At T m c below) (hx : p.tables.exec = Jvm.exec) {i : Nat} {v : Int64} (hd : decode c.code pc = .ok (.lload i, 2)) (hl : L[i]? = some (.val (.long v))) (G : own_Go p e below T (mkF m (pc + 2) L (.long v :: S)) Φ) : own_Go p e below T (mkF m pc L S) Φ := own_by (fun t k => XS.lload h hx rfl hd hl k) G
theorem own_s_aloadN {p : Program} {e : Env} {below : List Frame} {T : State} {m : MethodId} {c : Code} {Φ : Outcome → State → Prop} {pc : Nat} {L : Array Slot} {S : List Value} (h : At T m c below) (hx : p.tables.exec = Jvm.exec) {i : Fin 4} {v : Value} (hd : decode c.code pc = .ok (.aload_n i, 1)) (hl : L[i.val]? = some (.val v)) (hv : v.isRef = true) (G : own_Go p e below T (mkF m (pc + 1) L (v :: S)) Φ) : own_Go p e below T (mkF m pc L S) Φ := own_by (fun t k => XS.aloadN h hx rfl hd hl hv k) G
theorem own_s_aload {p : Program} {e : Env} {below : List Frame} {T : State} {m : MethodId} {c : Code} {Φ : Outcome → State → Prop} {pc : Nat} {L : Array Slot} {S : List Value} (h : At T m c below) (hx : p.tables.exec = Jvm.exec) {i : Nat} {v : Value} (hd : decode c.code pc = .ok (.aload i, 2)) (hl : L[i]? = some (.val v)) (hv : v.isRef = true) (G : own_Go p e below T (mkF m (pc + 2) L (v :: S)) Φ) : own_Go p e below T (mkF m pc L S) Φ := own_by (fun t k => XS.aload h hx rfl hd hl hv k) G
theorem own_s_istoreN {p : Program} {e : Env} {below : List Frame} {T : State} {m : MethodId} {c : Code} {Φ : Outcome → State → Prop} {pc : Nat} {L : Array Slot} {S : List Value} (h : At T m c below) (hx : p.tables.exec = Jvm.exec) {i : Fin 4} {v : Int32} (L' : Array Slot) (hd : decode c.code pc = .ok (.istore_n i, 1)) (hl : storeLocals L i.val (.int v) = some L') (G : own_Go p e below T (mkF m (pc + 1) L' S) Φ) : own_Go p e below T (mkF m pc L (.int v :: S)) Φ := own_by (fun t k => XS.istoreN h hx rfl hd rfl hl k) G
theorem own_s_istore {p : Program} {e : Env} {below : List Frame} {T : State} {m : MethodId} {c : Code} {Φ : Outcome → State → Prop} {pc : Nat} {L : Array Slot} {S : List Value} (h : At T m c below) (hx : p.tables.exec = Jvm.exec) {i : Nat} {v : Int32} (L' : Array Slot) (hd : decode c.code pc = .ok (.istore i, 2)) (hl : storeLocals L i (.int v) = some L') (G : own_Go p e below T (mkF m (pc + 2) L' S) Φ) : own_Go p e below T (mkF m pc L (.int v :: S)) Φ := own_by (fun t k => XS.istore h hx rfl hd rfl hl k) G
theorem own_s_lstoreN {p : Program} {e : Env} {below : List Frame} {T : State} {m : MethodId} {c : Code} {Φ : Outcome → State → Prop} {pc : Nat} {L : Array Slot} {S : List Value} (h : At T m c below) (hx : p.tables.exec = Jvm.exec) {i : Fin 4} {v : Int64} (L' : Array Slot) (hd : decode c.code pc = .ok (.lstore_n i, 1)) (hl : storeLocals L i.val (.long v) = some L') (G : own_Go p e below T (mkF m (pc + 1) L' S) Φ) : own_Go p e below T (mkF m pc L (.long v :: S)) Φ := own_by (fun t k => XS.lstoreN h hx rfl hd rfl hl k) G
theorem own_s_lstore {p : Program} {e : Env} {below : List Frame} {T : State} {m : MethodId} {c : Code} {Φ : Outcome → State → Prop} {pc : Nat} {L : Array Slot} {S : List Value} (h : At T m c below) (hx : p.tables.exec = Jvm.exec) {i : Nat} {v : Int64} (L' : Array Slot) (hd : decode c.code pc = .ok (.lstore i, 2)) (hl : storeLocals L i (.long v) = some L') (G : own_Go p e below T (mkF m (pc + 2) L' S) Φ) : own_Go p e below T (mkF m pc L (.long v :: S)) Φ := own_by (fun t k => XS.lstore h hx rfl hd rfl hl k) G
theorem own_s_astoreN {p : Program} {e : Env} {below : List Frame} {T : State} {m : MethodId} {c : Code} {Φ : Outcome → State → Prop} {pc : Nat} {L : Array Slot} {S : List Value} (h : At T m c below) (hx : p.tables.exec = Jvm.exec) {i : Fin 4} {v : Value} (L' : Array Slot) (hd : decode c.code pc = .ok (.astore_n i, 1)) (hv : v.isRef = true) (hl : storeLocals L i.val v = some L') (G : own_Go p e below T (mkF m (pc + 1) L' S) Φ) : own_Go p e below T (mkF m pc L (v :: S)) Φ := own_by (fun t k => XS.astoreN h hx rfl hd rfl hv hl k) G
theorem own_s_astore {p : Program} {e : Env} {below : List Frame} {T : State} {m : MethodId} {c : Code} {Φ : Outcome → State → Prop} {pc : Nat} {L : Array Slot} {S : List Value} (h : At T m c below) (hx : p.tables.exec = Jvm.exec) {i : Nat} {v : Value} (L' : Array Slot) (hd : decode c.code pc = .ok (.astore i, 2)) (hv : v.isRef = true) (hl : storeLocals L i v = some L') (G : own_Go p e below T (mkF m (pc + 2) L' S) Φ) : own_Go p e below T (mkF m pc L (v :: S)) Φ := own_by (fun t k => XS.astore h hx rfl hd rfl hv hl k) G
theorem own_s_iconst {p : Program} {e : Env} {below : List Frame} {T : State} {m : MethodId} {c : Code} {Φ : Outcome → State → Prop} {pc : Nat} {L : Array Slot} {S : List Value} (h : At T m c below) (hx : p.tables.exec = Jvm.exec) {i : Int} (v : Int32) (hd : decode c.code pc = .ok (.iconst i, 1)) (hv : Int32.ofInt i = v) (G : own_Go p e below T (mkF m (pc + 1) L (.int v :: S)) Φ) : own_Go p e below T (mkF m pc L S) Φ := own_by (fun t k => XS.iconst h hx rfl hd (by rw [hv]; exact k)) G
theorem own_s_bipush {p : Program} {e : Env} {below : List Frame} {T : State} {m : MethodId} {c : Code} {Φ : Outcome → State → Prop} {pc : Nat} {L : Array Slot} {S : List Value} (h : At T m c below) (hx : p.tables.exec = Jvm.exec) {i : Int} (v : Int32) (hd : decode c.code pc = .ok (.bipush i, 2)) (hv : (Int8.ofInt i).toInt32 = v) (G : own_Go p e below T (mkF m (pc + 2) L (.int v :: S)) Φ) : own_Go p e below T (mkF m pc L S) Φ := own_by (fun t k => XS.bipush h hx rfl hd (by rw [hv]; exact k)) G
theorem own_s_sipush {p : Program} {e : Env} {below : List Frame} {T : State} {m : MethodId} {c : Code} {Φ : Outcome → State → Prop} {pc : Nat} {L : Array Slot} {S : List Value} (h : At T m c below) (hx : p.tables.exec = Jvm.exec) {i : Int} (v : Int32) (hd : decode c.code pc = .ok (.sipush i, 3)) (hv : (Int16.ofInt i).toInt32 = v) (G : own_Go p e below T (mkF m (pc + 3) L (.int v :: S)) Φ) : own_Go p e below T (mkF m pc L S) Φ := own_by (fun t k => XS.sipush h hx rfl hd (by rw [hv]; exact k)) G
theorem own_s_lconst {p : Program} {e : Env} {below : List Frame} {T : State} {m : MethodId} {c : Code} {Φ : Outcome → State → Prop} {pc : Nat} {L : Array Slot} {S : List Value} (h : At T m c below) (hx : p.tables.exec = Jvm.exec) {i : Fin 2} (v : Int64) (hd : decode c.code pc = .ok (.lconst i, 1)) (hv : Int64.ofNat i = v) (G : own_Go p e below T (mkF m (pc + 1) L (.long v :: S)) Φ) : own_Go p e below T (mkF m pc L S) Φ := own_by (fun t k => XS.lconst h hx rfl hd (by rw [hv]; exact k)) G
theorem own_s_goto {p : Program} {e : Env} {below : List Frame} {T : State} {m : MethodId} {c : Code} {Φ : Outcome → State → Prop} {pc : Nat} {L : Array Slot} {S : List Value} (h : At T m c below) (hx : p.tables.exec = Jvm.exec) {o : Int} (pc' : Nat) (hd : decode c.code pc = .ok (.goto o, 3)) (ho : 0 ≤ (pc : Int) + o) (hp : ((pc : Int) + o).toNat = pc') (G : own_Go p e below T (mkF m pc' L S) Φ) : own_Go p e below T (mkF m pc L S) Φ := own_by (fun t k => XS.goto h hx rfl rfl hd ho hp k) G
theorem own_s_ifYes {p : Program} {e : Env} {below : List Frame} {T : State} {m : MethodId} {c : Code} {Φ : Outcome → State → Prop} {pc : Nat} {L : Array Slot} {S : List Value} (h : At T m c below) (hx : p.tables.exec = Jvm.exec) {cd : ClassFile.Cond} {x : Int32} {o : Int} (pc' : Nat) (hd : decode c.code pc = .ok (.ifCond cd o, 3)) (hc : ifCond.holds cd x = true) (ho : 0 ≤ (pc : Int) + o) (hp : ((pc : Int) + o).toNat = pc') (G : own_Go p e below T (mkF m pc' L S) Φ) : own_Go p e below T (mkF m pc L (.int x :: S)) Φ := own_by (fun t k => XS.ifYes h hx rfl rfl hd rfl hc ho hp k) G
theorem own_s_ifNo {p : Program} {e : Env} {below : List Frame} {T : State} {m : MethodId} {c : Code} {Φ : Outcome → State → Prop} {pc : Nat} {L : Array Slot} {S : List Value} (h : At T m c below) (hx : p.tables.exec = Jvm.exec) {cd : ClassFile.Cond} {x : Int32} {o : Int} (hd : decode c.code pc = .ok (.ifCond cd o, 3)) (hc : ifCond.holds cd x = false) (G : own_Go p e below T (mkF m (pc + 3) L S) Φ) : own_Go p e below T (mkF m pc L (.int x :: S)) Φ := own_by (fun t k => XS.ifNo h hx rfl hd rfl hc k) G
theorem own_s_icmpYes {p : Program} {e : Env} {below : List Frame} {T : State} {m : MethodId} {c : Code} {Φ : Outcome → State → Prop} {pc : Nat} {L : Array Slot} {S : List Value} (h : At T m c below) (hx : p.tables.exec = Jvm.exec) {cd : ClassFile.Cond} {x y : Int32} {o : Int} (pc' : Nat) (hd : decode c.code pc = .ok (.if_icmp cd o, 3)) (hc : if_icmp.holds cd x y = true) (ho : 0 ≤ (pc : Int) + o) (hp : ((pc : Int) + o).toNat = pc') (G : own_Go p e below T (mkF m pc' L S) Φ) : own_Go p e below T (mkF m pc L (.int y :: .int x :: S)) Φ := own_by (fun t k => XS.icmpYes h hx rfl rfl hd rfl hc ho hp k) G
theorem own_s_icmpNo {p : Program} {e : Env} {below : List Frame} {T : State} {m : MethodId} {c : Code} {Φ : Outcome → State → Prop} {pc : Nat} {L : Array Slot} {S : List Value} (h : At T m c below) (hx : p.tables.exec = Jvm.exec) {cd : ClassFile.Cond} {x y : Int32} {o : Int} (hd : decode c.code pc = .ok (.if_icmp cd o, 3)) (hc : if_icmp.holds cd x y = false) (G : own_Go p e below T (mkF m (pc + 3) L S) Φ) : own_Go p e below T (mkF m pc L (.int y :: .int x :: S)) Φ := own_by (fun t k => XS.icmpNo h hx rfl hd rfl hc k) G
theorem own_s_lcmp {p : Program} {e : Env} {below : List Frame} {T : State} {m : MethodId} {c : Code} {Φ : Outcome → State → Prop} {pc : Nat} {L : Array Slot} {S : List Value} (h : At T m c below) (hx : p.tables.exec = Jvm.exec) {x y : Int64} (hd : decode c.code pc = .ok (.lcmp, 1)) (G : own_Go p e below T (mkF m (pc + 1) L (.int (Jvm.Free.XT.cmpL x y) :: S)) Φ) : own_Go p e below T (mkF m pc L (.long y :: .long x :: S)) Φ := own_by (fun t k => Jvm.Free.XT.lcmp h hx rfl hd rfl k) G
theorem own_s_dup {p : Program} {e : Env} {below : List Frame} {T : State} {m : MethodId} {c : Code} {Φ : Outcome → State → Prop} {pc : Nat} {L : Array Slot} {S : List Value} (h : At T m c below) (hx : p.tables.exec = Jvm.exec) {x : Value} (hd : decode c.code pc = .ok (.dup, 1)) (hc : x.category = 1) (G : own_Go p e below T (mkF m (pc + 1) L (x :: x :: S)) Φ) : own_Go p e below T (mkF m pc L (x :: S)) Φ := own_by (fun t k => XS.dup h hx rfl hd rfl hc k) G
theorem own_s_pop {p : Program} {e : Env} {below : List Frame} {T : State} {m : MethodId} {c : Code} {Φ : Outcome → State → Prop} {pc : Nat} {L : Array Slot} {S : List Value} (h : At T m c below) (hx : p.tables.exec = Jvm.exec) {x : Value} (hd : decode c.code pc = .ok (.pop, 1)) (hc : x.category = 1) (G : own_Go p e below T (mkF m (pc + 1) L S) Φ) : own_Go p e below T (mkF m pc L (x :: S)) Φ := own_by (fun t k => XS.pop h hx rfl hd rfl hc k) G

def own_f1 (u0 : Int32) (u1 : Int32) (u2 : Int32) : Int32 := (((u0 + u1) &&& (3 : Int32)) ^^^ u2)
theorem own_d1_0 : decode method_2_code 0 = .ok (.iload_n 0, 1) := by decide +kernel
theorem own_d1_1 : decode method_2_code 1 = .ok (.iload_n 1, 1) := by decide +kernel
theorem own_d1_2 : decode method_2_code 2 = .ok (.iadd, 1) := by decide +kernel
theorem own_d1_3 : decode method_2_code 3 = .ok (.iconst 3, 1) := by decide +kernel
theorem own_d1_4 : decode method_2_code 4 = .ok (.iand, 1) := by decide +kernel
theorem own_d1_5 : decode method_2_code 5 = .ok (.iload_n 2, 1) := by decide +kernel
theorem own_d1_6 : decode method_2_code 6 = .ok (.ixor, 1) := by decide +kernel
theorem own_d1_7 : decode method_2_code 7 = .ok (.ireturn, 1) := by decide +kernel
theorem own_pn_ShortestPathsWalkPinLaw : plainName "com/example/geodesic/geodesic/graph/ShortestPathsWalkPinLaw" = true := by first | (simp [plainName, overriddenIn]; done) | decide +kernel
theorem own_ef1 (m : MethodId) (u0 : Int32) (u1 : Int32) (u2 : Int32) : entryFrame m #[(.int u0), (.int u1), (.int u2)] 3 = mkF m 0 #[.val (.int u0), .val (.int u1), .val (.int u2)] [] := by first | (simp [entryFrame, mkF, argsToLocals, Value.category]; done) | rfl
def own_q_own_r1 (Z : State) (u0 : Int32) (u1 : Int32) (u2 : Int32) (h0 : Heap) (n0 : Nat) (v : Option Value) (h : Heap) (L : List Loc) : Prop := v = some (.int (own_f1 u0 u1 u2)) ∧ Fr n0 L ∧ h = h0
set_option maxRecDepth 65536 in
set_option maxHeartbeats 40000000 in
theorem own_r1 (l : Launch) (Z : State) (a0 : Array Value) (hw : ∀ d ∈ tables_1, d.before a0 Z = true) (ws : List Jvm.Cond) (u0 : Int32) (u1 : Int32) (u2 : Int32) (h0 : Heap) (n0 : Nat) (Z0 : n0 ≤ h0.size) :
    MetFree l (⟨"com/example/geodesic/geodesic/graph/ShortestPathsWalkPinLaw", "s", "(III)I"⟩ : MethodName) (head1 (Jvm.Cond.code (⟨"com/example/geodesic/geodesic/graph/ShortestPathsWalkPinLaw", "s", "(III)I"⟩ : MethodName) method_2_code 3 (some .int) :: ws) ({ frames := 0, cells := 0, slots := 0, locals := 0 } : Room)) (fun a U => a = #[(.int u0), (.int u1), (.int u2)] ∧ Z.Warmed39 U.vm ∧ U.heap = h0) (fun _ _ _ _ _ => True) (fun _ U o U' => ∃ v L, o = .returned v ∧ own_q_own_r1 Z u0 u1 u2 h0 n0 v U'.heap L ∧ FrameEnd U o U' L ({ frames := 0, cells := 0, slots := 0, locals := 0 } : Room).cells ({ frames := 0, cells := 0, slots := 0, locals := 0 } : Room).slots) := by
  refine MetFree.of_bodySF (plainFor_of_name own_pn_ShortestPathsWalkPinLaw) hisR ?_
  intro p e s m args below meth c T0 Bd hml0 hP hK
  obtain ⟨rfl, hZ, hh⟩ := hP
  have hx := Bd.exec
  have hby := Bd.bytes
  have hml : c.maxLocals = 3 := hml0
  have hown : s.vm.findClass "com/example/geodesic/geodesic/graph/ShortestPathsWalkPinLaw" = some m.cls := findClass_of_methodNamed Bd.named
  have hnm := (name_of_methodNamed Bd.named Bd.method).1
  have hret : meth.sig.returnType = (some .int) := Bd.returns
  have hlk : meth.locks = false := BodyLoose.notSynchronized Bd
  have X0 : Stand p l e ({ frames := 0, cells := 0, slots := 0, locals := 0 } : Room) s m #[(.int u0), (.int u1), (.int u2)] below meth c T0 [] 0 0 := Stand.of_body Bd
  have e0 : T0.heap = h0 := by rw [← hh, Bd.state]; rfl
  have N0 := Fr.nil n0
  refine own_start (own_ef1 m u0 u1 u2) (Q := fun (v : Option Value) (h : Heap) (L : List Loc) => v = some (.int (own_f1 u0 u1 u2)) ∧ Fr n0 L ∧ h = h0) (k := 0) (j := 0) ?_
  show own_Go p e below T0 (mkF m 0 #[.val (.int u0), .val (.int u1), .val (.int u2)] []) _
  refine own_s_iloadN X0.here hx (hb hby own_d1_0) rfl ?_
  refine own_s_iloadN X0.here hx (hb hby own_d1_1) rfl ?_
  refine own_s_iadd X0.here hx (hb hby own_d1_2) ?_
  refine own_s_iconst X0.here hx (3 : Int32) (hb hby own_d1_3) rfl ?_
  refine own_s_iand X0.here hx (hb hby own_d1_4) ?_
  refine own_s_iloadN X0.here hx (hb hby own_d1_5) rfl ?_
  refine own_s_ixor X0.here hx (hb hby own_d1_6) ?_
  refine own_retI X0 hx hret hlk (hb hby own_d1_7) (by decide) (by decide) ?_
  exact ⟨by unfold own_f1; rfl, N0, e0⟩
def own_f2 (u0 : Int32) (u1 : Int32) (u2 : Int32) : Int32 := (if u0 < 0 then (-1 : Int32) else (own_f1 u0 u1 u2))
theorem own_d2_0 : decode method_3_code 0 = .ok (.iload_n 0, 1) := by decide +kernel
theorem own_d2_1 : decode method_3_code 1 = .ok (.ifCond .ge 7, 3) := by decide +kernel
theorem own_d2_4 : decode method_3_code 4 = .ok (.iconst (-1), 1) := by decide +kernel
theorem own_d2_5 : decode method_3_code 5 = .ok (.goto 9, 3) := by decide +kernel
theorem own_d2_8 : decode method_3_code 8 = .ok (.iload_n 0, 1) := by decide +kernel
theorem own_d2_9 : decode method_3_code 9 = .ok (.iload_n 1, 1) := by decide +kernel
theorem own_d2_10 : decode method_3_code 10 = .ok (.iload_n 2, 1) := by decide +kernel
theorem own_d2_11 : decode method_3_code 11 = .ok (.invokestatic 7, 3) := by decide +kernel
theorem own_d2_14 : decode method_3_code 14 = .ok (.ireturn, 1) := by decide +kernel
theorem own_ef2 (m : MethodId) (u0 : Int32) (u1 : Int32) (u2 : Int32) : entryFrame m #[(.int u0), (.int u1), (.int u2)] 3 = mkF m 0 #[.val (.int u0), .val (.int u1), .val (.int u2)] [] := by first | (simp [entryFrame, mkF, argsToLocals, Value.category]; done) | rfl
theorem own_pd_0 : parseMethodDescriptor "(III)I" = some ⟨[.int, .int, .int], some .int⟩ := by decide +kernel
def own_q_own_r2 (Z : State) (u0 : Int32) (u1 : Int32) (u2 : Int32) (h0 : Heap) (n0 : Nat) (v : Option Value) (h : Heap) (L : List Loc) : Prop := v = some (.int (own_f2 u0 u1 u2)) ∧ Fr n0 L ∧ h = h0
set_option maxRecDepth 65536 in
set_option maxHeartbeats 40000000 in
theorem own_r2 (l : Launch) (Z : State) (a0 : Array Value) (hw : ∀ d ∈ tables_1, d.before a0 Z = true) (ws : List Jvm.Cond) (u0 : Int32) (u1 : Int32) (u2 : Int32) (h0 : Heap) (n0 : Nat) (Z0 : n0 ≤ h0.size) :
    MetFree l (⟨"com/example/geodesic/geodesic/graph/ShortestPathsWalkPinLaw", "img", "(III)I"⟩ : MethodName) (head1 (Jvm.Cond.code (⟨"com/example/geodesic/geodesic/graph/ShortestPathsWalkPinLaw", "img", "(III)I"⟩ : MethodName) method_3_code 3 (some .int) :: ws) ({ frames := 1, cells := 0, slots := 0, locals := 14 } : Room)) (fun a U => a = #[(.int u0), (.int u1), (.int u2)] ∧ Z.Warmed39 U.vm ∧ U.heap = h0) (fun _ _ _ _ _ => True) (fun _ U o U' => ∃ v L, o = .returned v ∧ own_q_own_r2 Z u0 u1 u2 h0 n0 v U'.heap L ∧ FrameEnd U o U' L ({ frames := 1, cells := 0, slots := 0, locals := 14 } : Room).cells ({ frames := 1, cells := 0, slots := 0, locals := 14 } : Room).slots) := by
  refine MetFree.of_bodySF (plainFor_of_name own_pn_ShortestPathsWalkPinLaw) hisR ?_
  intro p e s m args below meth c T0 Bd hml0 hP hK
  obtain ⟨rfl, hZ, hh⟩ := hP
  have hx := Bd.exec
  have hby := Bd.bytes
  have hml : c.maxLocals = 3 := hml0
  have hown : s.vm.findClass "com/example/geodesic/geodesic/graph/ShortestPathsWalkPinLaw" = some m.cls := findClass_of_methodNamed Bd.named
  have hnm := (name_of_methodNamed Bd.named Bd.method).1
  have hret : meth.sig.returnType = (some .int) := Bd.returns
  have hlk : meth.locks = false := BodyLoose.notSynchronized Bd
  have X0 : Stand p l e ({ frames := 1, cells := 0, slots := 0, locals := 14 } : Room) s m #[(.int u0), (.int u1), (.int u2)] below meth c T0 [] 0 0 := Stand.of_body Bd
  have e0 : T0.heap = h0 := by rw [← hh, Bd.state]; rfl
  have N0 := Fr.nil n0
  refine own_start (own_ef2 m u0 u1 u2) (Q := fun (v : Option Value) (h : Heap) (L : List Loc) => v = some (.int (own_f2 u0 u1 u2)) ∧ Fr n0 L ∧ h = h0) (k := 0) (j := 0) ?_
  show own_Go p e below T0 (mkF m 0 #[.val (.int u0), .val (.int u1), .val (.int u2)] []) _
  refine own_s_iloadN X0.here hx (hb hby own_d2_0) rfl ?_
  by_cases hc1 : u0 < 0
  ·
    refine own_s_ifNo X0.here hx (hb hby own_d2_1) (Jvm.Free.XT.i0_ge_f hc1) ?_
    refine own_s_iconst X0.here hx (-1 : Int32) (hb hby own_d2_4) rfl ?_
    show own_Go p e below T0 (mkF m 5 #[.val (.int u0), .val (.int u1), .val (.int u2)] [(.int (-1 : Int32))]) _
    refine own_s_goto X0.here hx 14 (hb hby own_d2_5) (by decide) (by decide) ?_
    refine own_retI X0 hx hret hlk (hb hby own_d2_14) (by decide) (by decide) ?_
    exact ⟨by unfold own_f2; rw [if_pos hc1], N0, e0⟩
  ·
    show own_Go p e below T0 (mkF m 1 #[.val (.int u0), .val (.int u1), .val (.int u2)] [(.int u0)]) _
    refine own_s_ifYes X0.here hx 8 (hb hby own_d2_1) (Jvm.Free.XT.i0_ge_t hc1) (by decide) (by decide) ?_
    refine own_s_iloadN X0.here hx (hb hby own_d2_8) rfl ?_
    refine own_s_iloadN X0.here hx (hb hby own_d2_9) rfl ?_
    refine own_s_iloadN X0.here hx (hb hby own_d2_10) rfl ?_
    obtain ⟨_, _, ⟨T1, L1, k1, n1⟩, -, X1, ⟨Lc1, hQ1, l1, y1, z1⟩, st1⟩ := Jvm.LawKit.callS X0 hx (y := (⟨"com/example/geodesic/geodesic/graph/ShortestPathsWalkPinLaw", "s", "(III)I"⟩ : MethodName)) hown (mvT hZ (hw _ (List.mem_of_getElem? (i := 1) rfl))) (mvT hZ (hw _ (List.mem_of_getElem? (i := 2) rfl))) (mvT hZ (hw _ (List.mem_of_getElem? (i := 3) rfl))) (mvT hZ (hw _ (List.mem_of_getElem? (i := 4) rfl))) (by decide) (backOf (W := 0) (own_r1 l Z a0 hw [] u0 u1 u2  h0 n0 Z0 ) hZ (hw _ (List.mem_of_getElem? (i := 4) rfl)) (hw _ (List.mem_of_getElem? (i := 3) rfl)) (by decide) (by decide)) (g := (mkF m 11 #[.val (.int u0), .val (.int u1), .val (.int u2)] [(.int u2), (.int u1), (.int u0)])) rfl (by rw [hml]; rfl) (argsL := [(.int u0), (.int u1), (.int u2)]) (rest := []) (lenOf own_pd_0 rfl) rfl (by show 2 * 0 + _ ≤ _; exact Nat.le_of_eq rfl) (hb hby own_d2_11) (fun _ _ => ⟨rfl, e0, (by decide : 0 + 0 ≤ _), (by decide : 0 + 0 ≤ _)⟩)
    dsimp only [Pt.U, Pt.locs, Pt.cells, Pt.slots] at X1 l1 y1 z1 st1 hQ1
    subst l1 y1 z1
    obtain ⟨rfl, N1q, e1⟩ := hQ1
    have N1 := Fr.app N0 N1q
    refine own_by st1 ?_
    show own_Go p e below T1 (mkF m 14 #[.val (.int u0), .val (.int u1), .val (.int u2)] [(.int (own_f1 u0 u1 u2))]) _
    refine own_retI X1 hx hret hlk (hb hby own_d2_14) (by decide) (by decide) ?_
    exact ⟨by unfold own_f2; rw [if_neg hc1], N1, e1⟩
theorem own_d3_0 : decode prog_17_method_8_code 0 = .ok (.iconst 1, 1) := by decide +kernel
theorem own_d3_1 : decode prog_17_method_8_code 1 = .ok (.istore_n 2, 1) := by decide +kernel
theorem own_d3_2 : decode prog_17_method_8_code 2 = .ok (.aload_n 0, 1) := by decide +kernel
theorem own_d3_3 : decode prog_17_method_8_code 3 = .ok (.iload_n 1, 1) := by decide +kernel
theorem own_d3_4 : decode prog_17_method_8_code 4 = .ok (.iaload, 1) := by decide +kernel
theorem own_d3_5 : decode prog_17_method_8_code 5 = .ok (.istore_n 3, 1) := by decide +kernel
theorem own_d3_6 : decode prog_17_method_8_code 6 = .ok (.iload_n 3, 1) := by decide +kernel
theorem own_d3_7 : decode prog_17_method_8_code 7 = .ok (.iconst (-1), 1) := by decide +kernel
theorem own_d3_8 : decode prog_17_method_8_code 8 = .ok (.if_icmp .eq 13, 3) := by decide +kernel
theorem own_d3_11 : decode prog_17_method_8_code 11 = .ok (.iinc 2 1, 3) := by decide +kernel
theorem own_d3_14 : decode prog_17_method_8_code 14 = .ok (.aload_n 0, 1) := by decide +kernel
theorem own_d3_15 : decode prog_17_method_8_code 15 = .ok (.iload_n 3, 1) := by decide +kernel
theorem own_d3_16 : decode prog_17_method_8_code 16 = .ok (.iaload, 1) := by decide +kernel
theorem own_d3_17 : decode prog_17_method_8_code 17 = .ok (.istore_n 3, 1) := by decide +kernel
theorem own_d3_18 : decode prog_17_method_8_code 18 = .ok (.goto (-12), 3) := by decide +kernel
theorem own_d3_21 : decode prog_17_method_8_code 21 = .ok (.iload_n 2, 1) := by decide +kernel
theorem own_d3_22 : decode prog_17_method_8_code 22 = .ok (.newarray .int, 2) := by decide +kernel
theorem own_d3_24 : decode prog_17_method_8_code 24 = .ok (.astore_n 3, 1) := by decide +kernel
theorem own_d3_25 : decode prog_17_method_8_code 25 = .ok (.iload_n 1, 1) := by decide +kernel
theorem own_d3_26 : decode prog_17_method_8_code 26 = .ok (.istore 4, 2) := by decide +kernel
theorem own_d3_28 : decode prog_17_method_8_code 28 = .ok (.iload_n 2, 1) := by decide +kernel
theorem own_d3_29 : decode prog_17_method_8_code 29 = .ok (.iconst 1, 1) := by decide +kernel
theorem own_d3_30 : decode prog_17_method_8_code 30 = .ok (.isub, 1) := by decide +kernel
theorem own_d3_31 : decode prog_17_method_8_code 31 = .ok (.istore 5, 2) := by decide +kernel
theorem own_d3_33 : decode prog_17_method_8_code 33 = .ok (.iload 5, 2) := by decide +kernel
theorem own_d3_35 : decode prog_17_method_8_code 35 = .ok (.ifCond .lt 21, 3) := by decide +kernel
theorem own_d3_38 : decode prog_17_method_8_code 38 = .ok (.aload_n 3, 1) := by decide +kernel
theorem own_d3_39 : decode prog_17_method_8_code 39 = .ok (.iload 5, 2) := by decide +kernel
theorem own_d3_41 : decode prog_17_method_8_code 41 = .ok (.iload 4, 2) := by decide +kernel
theorem own_d3_43 : decode prog_17_method_8_code 43 = .ok (.iastore, 1) := by decide +kernel
theorem own_d3_44 : decode prog_17_method_8_code 44 = .ok (.aload_n 0, 1) := by decide +kernel
theorem own_d3_45 : decode prog_17_method_8_code 45 = .ok (.iload 4, 2) := by decide +kernel
theorem own_d3_47 : decode prog_17_method_8_code 47 = .ok (.iaload, 1) := by decide +kernel
theorem own_d3_48 : decode prog_17_method_8_code 48 = .ok (.istore 4, 2) := by decide +kernel
theorem own_d3_50 : decode prog_17_method_8_code 50 = .ok (.iinc 5 (-1), 3) := by decide +kernel
theorem own_d3_53 : decode prog_17_method_8_code 53 = .ok (.goto (-20), 3) := by decide +kernel
theorem own_d3_56 : decode prog_17_method_8_code 56 = .ok (.aload_n 3, 1) := by decide +kernel
theorem own_d3_57 : decode prog_17_method_8_code 57 = .ok (.areturn, 1) := by decide +kernel
theorem own_pn_ShortestPaths : plainName "com/example/geodesic/geodesic/graph/ShortestPaths" = true := by first | (simp [plainName, overriddenIn]; done) | decide +kernel
theorem own_ef3 (m : MethodId) (pr : Addr) (x0 : Int32) : entryFrame m #[(.ref pr), (.int x0)] 6 = mkF m 0 #[.val (.ref pr), .val (.int x0), .unset, .unset, .unset, .unset] [] := by first | (simp [entryFrame, mkF, argsToLocals, Value.category]; done) | rfl
def own_q_own_wk1 (Z : State) (pr : Addr) (x0 : Int32) (k0 : Nat) (f : Nat → Value) (h0 : Heap) (n0 : Nat) (v : Option Value) (h : Heap) (L : List Loc) : Prop := ∃ b : Addr, v = some (.ref b) ∧ Fr n0 L ∧ n0 ≤ b ∧ Keep h0 h [] ∧ own_Av Z h b .int 1 (own_upd (fun _ => (.int (0 : Int32))) 0 (.int x0))
set_option maxRecDepth 65536 in
set_option maxHeartbeats 40000000 in
theorem own_wk1 (l : Launch) (Z : State) (a0 : Array Value) (hw : ∀ d ∈ tables_1, d.before a0 Z = true) (ws : List Jvm.Cond) (pr : Addr) (x0 : Int32) (k0 : Nat) (f : Nat → Value) (h0 : Heap) (n0 : Nat) (Z0 : n0 ≤ h0.size) (ha0 : own_At x0 k0) (hl0 : k0 < 4) (hv0 : f k0 = .int (-1 : Int32)) (A_pr : own_Av Z h0 pr .int 4 f) :
    MetFree l (⟨"com/example/geodesic/geodesic/graph/ShortestPaths", "walk", "([II)[I"⟩ : MethodName) (head1 (Jvm.Cond.code (⟨"com/example/geodesic/geodesic/graph/ShortestPaths", "walk", "([II)[I"⟩ : MethodName) prog_17_method_8_code 6 (some (.array .int)) :: ws) ({ frames := 0, cells := 1, slots := 1, locals := 0 } : Room)) (fun a U => a = #[(.ref pr), (.int x0)] ∧ Z.Warmed39 U.vm ∧ U.heap = h0) (fun _ _ _ _ _ => True) (fun _ U o U' => ∃ v L, o = .returned v ∧ own_q_own_wk1 Z pr x0 k0 f h0 n0 v U'.heap L ∧ FrameEnd U o U' L ({ frames := 0, cells := 1, slots := 1, locals := 0 } : Room).cells ({ frames := 0, cells := 1, slots := 1, locals := 0 } : Room).slots) := by
  refine MetFree.of_bodySF (plainFor_of_name own_pn_ShortestPaths) hisR ?_
  intro p e s m args below meth c T0 Bd hml0 hP hK
  obtain ⟨rfl, hZ, hh⟩ := hP
  have hx := Bd.exec
  have hby := Bd.bytes
  have hml : c.maxLocals = 6 := hml0
  have hown : s.vm.findClass "com/example/geodesic/geodesic/graph/ShortestPaths" = some m.cls := findClass_of_methodNamed Bd.named
  have hnm := (name_of_methodNamed Bd.named Bd.method).1
  have hret : meth.sig.returnType = (some (.array .int)) := Bd.returns
  have hlk : meth.locks = false := BodyLoose.notSynchronized Bd
  have X0 : Stand p l e ({ frames := 0, cells := 1, slots := 1, locals := 0 } : Room) s m #[(.ref pr), (.int x0)] below meth c T0 [] 0 0 := Stand.of_body Bd
  have e0 : T0.heap = h0 := by rw [← hh, Bd.state]; rfl
  have N0 := Fr.nil n0
  refine own_start (own_ef3 m pr x0) (Q := fun (v : Option Value) (h : Heap) (L : List Loc) => ∃ b : Addr, v = some (.ref b) ∧ Fr n0 L ∧ n0 ≤ b ∧ Keep h0 h [] ∧ own_Av Z h b .int 1 (own_upd (fun _ => (.int (0 : Int32))) 0 (.int x0))) (k := 1) (j := 1) ?_
  show own_Go p e below T0 (mkF m 0 #[.val (.ref pr), .val (.int x0), .unset, .unset, .unset, .unset] []) _
  have K0 := Keep.refl h0 []
  refine own_s_iconst X0.here hx (1 : Int32) (hb hby own_d3_0) rfl ?_
  refine own_s_istoreN X0.here hx #[.val (.ref pr), .val (.int x0), .val (.int (1 : Int32)), .unset, .unset, .unset] (hb hby own_d3_1) rfl ?_
  refine own_s_aloadN X0.here hx (hb hby own_d3_2) rfl rfl ?_
  refine own_s_iloadN X0.here hx (hb hby own_d3_3) rfl ?_
  refine own_by (fun tq_ kq_ => own_ldI X0 hx hZ e0 A_pr (k := k0) (v := (.int (-1 : Int32))) ha0 hl0 hv0 (g := (mkF m 4 #[.val (.ref pr), .val (.int x0), .val (.int (1 : Int32)), .unset, .unset, .unset] [(.int x0), (.ref pr)])) rfl rfl (hb hby own_d3_4) tq_ kq_) ?_
  show own_Go p e below T0 (mkF m 5 #[.val (.ref pr), .val (.int x0), .val (.int (1 : Int32)), .unset, .unset, .unset] [(.int (-1 : Int32))]) _
  refine own_s_istoreN X0.here hx #[.val (.ref pr), .val (.int x0), .val (.int (1 : Int32)), .val (.int (-1 : Int32)), .unset, .unset] (hb hby own_d3_5) rfl ?_
  refine own_s_iloadN X0.here hx (hb hby own_d3_6) rfl ?_
  refine own_s_iconst X0.here hx (-1 : Int32) (hb hby own_d3_7) rfl ?_
  show own_Go p e below T0 (mkF m 8 #[.val (.ref pr), .val (.int x0), .val (.int (1 : Int32)), .val (.int (-1 : Int32)), .unset, .unset] [(.int (-1 : Int32)), (.int (-1 : Int32))]) _
  refine own_s_icmpYes X0.here hx 21 (hb hby own_d3_8) (Jvm.Free.XT.ii_eq_t ((by decide))) (by decide) (by decide) ?_
  refine own_s_iloadN X0.here hx (hb hby own_d3_21) rfl ?_
  obtain ⟨T2, h2, k2, X2, e2, E2, A2, st2⟩ := newP X0 hx hZ (hw _ (List.mem_of_getElem? (i := 0) rfl)) e0 (g := (mkF m 22 #[.val (.ref pr), .val (.int x0), .val (.int (1 : Int32)), .val (.int (-1 : Int32)), .unset, .unset] [(.int (1 : Int32))])) rfl (hb hby own_d3_22) rfl (by decide) (cap := 1) (by decide) (by decide) (by decide) (by decide)
  obtain ⟨b2, g2⟩ : ∃ z, z = h0.size := ⟨_, rfl⟩
  rw [← g2] at A2 st2
  have ge_b2 : n0 ≤ b2 := Nat.le_trans Z0 (Nat.le_of_eq g2.symm)
  have sz_b2 : h0.size ≤ b2 := Nat.le_trans K0.1 (Nat.le_of_eq g2.symm)
  have ne_pr_b2 : pr ≠ b2 := Nat.ne_of_lt (Nat.lt_of_lt_of_le A_pr.lt (Nat.le_of_eq g2.symm))
  have f3 := A_pr.ext E2
  have SZ2 : n0 ≤ h2.size := Nat.le_trans Z0 E2.1
  have K2 := K0.ext E2
  have f4 : own_Av Z h2 b2 .int 1 (fun _ => (.int (0 : Int32))) := own_Av.ofnew A2 (by decide) rfl
  refine own_by st2 ?_
  show own_Go p e below T2 (mkF m 24 #[.val (.ref pr), .val (.int x0), .val (.int (1 : Int32)), .val (.int (-1 : Int32)), .unset, .unset] [(.ref b2)]) _
  refine own_s_astoreN X2.here hx #[.val (.ref pr), .val (.int x0), .val (.int (1 : Int32)), .val (.ref b2), .unset, .unset] (hb hby own_d3_24) rfl rfl ?_
  refine own_s_iloadN X2.here hx (hb hby own_d3_25) rfl ?_
  refine own_s_istore X2.here hx #[.val (.ref pr), .val (.int x0), .val (.int (1 : Int32)), .val (.ref b2), .val (.int x0), .unset] (hb hby own_d3_26) rfl ?_
  refine own_s_iloadN X2.here hx (hb hby own_d3_28) rfl ?_
  refine own_s_iconst X2.here hx (1 : Int32) (hb hby own_d3_29) rfl ?_
  refine own_s_isub X2.here hx (hb hby own_d3_30) ?_
  show own_Go p e below T2 (mkF m 31 #[.val (.ref pr), .val (.int x0), .val (.int (1 : Int32)), .val (.ref b2), .val (.int x0), .unset] [(.int (0 : Int32))]) _
  refine own_s_istore X2.here hx #[.val (.ref pr), .val (.int x0), .val (.int (1 : Int32)), .val (.ref b2), .val (.int x0), .val (.int (0 : Int32))] (hb hby own_d3_31) rfl ?_
  refine own_s_iload X2.here hx (hb hby own_d3_33) rfl ?_
  refine own_s_ifNo X2.here hx (hb hby own_d3_35) (Jvm.Free.XT.i0_lt_f ((by decide))) ?_
  refine own_s_aloadN X2.here hx (hb hby own_d3_38) rfl rfl ?_
  refine own_s_iload X2.here hx (hb hby own_d3_39) rfl ?_
  refine own_s_iload X2.here hx (hb hby own_d3_41) rfl ?_
  obtain ⟨T5, h5, X5, e5, W5, fa5, st5⟩ := own_stI X2 hx hZ e2 f4 (k := 0) (by decide) (by decide) (g := (mkF m 43 #[.val (.ref pr), .val (.int x0), .val (.int (1 : Int32)), .val (.ref b2), .val (.int x0), .val (.int (0 : Int32))] [(.int x0), (.int (0 : Int32)), (.ref b2)])) rfl rfl (hb hby own_d3_43)
  have f6 := f3.other W5 ne_pr_b2
  have N5 := Fr.snoc X5 N0 ge_b2
  have SZ5 : n0 ≤ h5.size := by rw [W5.size]; exact SZ2
  have K5 := K2.wr W5 (Or.inr sz_b2)
  refine own_by st5 ?_
  show own_Go p e below T5 (mkF m 44 #[.val (.ref pr), .val (.int x0), .val (.int (1 : Int32)), .val (.ref b2), .val (.int x0), .val (.int (0 : Int32))] []) _
  refine own_s_aloadN X5.here hx (hb hby own_d3_44) rfl rfl ?_
  refine own_s_iload X5.here hx (hb hby own_d3_45) rfl ?_
  refine own_by (fun tq_ kq_ => own_ldI X5 hx hZ e5 f6 (k := k0) (v := (.int (-1 : Int32))) ha0 hl0 hv0 (g := (mkF m 47 #[.val (.ref pr), .val (.int x0), .val (.int (1 : Int32)), .val (.ref b2), .val (.int x0), .val (.int (0 : Int32))] [(.int x0), (.ref pr)])) rfl rfl (hb hby own_d3_47) tq_ kq_) ?_
  show own_Go p e below T5 (mkF m 48 #[.val (.ref pr), .val (.int x0), .val (.int (1 : Int32)), .val (.ref b2), .val (.int x0), .val (.int (0 : Int32))] [(.int (-1 : Int32))]) _
  refine own_s_istore X5.here hx #[.val (.ref pr), .val (.int x0), .val (.int (1 : Int32)), .val (.ref b2), .val (.int (-1 : Int32)), .val (.int (0 : Int32))] (hb hby own_d3_48) rfl ?_
  refine own_by (fun tq_ kq_ => XS.iinc X5.here hx rfl (hb hby own_d3_50) rfl (l' := #[.val (.ref pr), .val (.int x0), .val (.int (1 : Int32)), .val (.ref b2), .val (.int (-1 : Int32)), .val (.int ((0 : Int32) + (-1 : Int32)))]) rfl kq_) ?_
  show own_Go p e below T5 (mkF m 53 #[.val (.ref pr), .val (.int x0), .val (.int (1 : Int32)), .val (.ref b2), .val (.int (-1 : Int32)), .val (.int ((0 : Int32) + (-1 : Int32)))] []) _
  show own_Go p e below T5 (mkF m 53 #[.val (.ref pr), .val (.int x0), .val (.int (1 : Int32)), .val (.ref b2), .val (.int (-1 : Int32)), .val (.int (-1 : Int32))] []) _
  refine own_s_goto X5.here hx 33 (hb hby own_d3_53) (by decide) (by decide) ?_
  refine own_s_iload X5.here hx (hb hby own_d3_33) rfl ?_
  show own_Go p e below T5 (mkF m 35 #[.val (.ref pr), .val (.int x0), .val (.int (1 : Int32)), .val (.ref b2), .val (.int (-1 : Int32)), .val (.int (-1 : Int32))] [(.int (-1 : Int32))]) _
  refine own_s_ifYes X5.here hx 56 (hb hby own_d3_35) (Jvm.Free.XT.i0_lt_t ((by decide))) (by decide) (by decide) ?_
  refine own_s_aloadN X5.here hx (hb hby own_d3_56) rfl rfl ?_
  refine own_retA X5 hx hret hlk (hb hby own_d3_57) rfl rfl rfl (by decide) (by decide) ?_
  rw [e5]
  exact ⟨b2, rfl, N5, ge_b2, K5, fa5⟩
def own_q_own_wk2 (Z : State) (pr : Addr) (x0 : Int32) (x1 : Int32) (k0 k1 : Nat) (f : Nat → Value) (h0 : Heap) (n0 : Nat) (v : Option Value) (h : Heap) (L : List Loc) : Prop := ∃ b : Addr, v = some (.ref b) ∧ Fr n0 L ∧ n0 ≤ b ∧ Keep h0 h [] ∧ own_Av Z h b .int 2 (own_upd (own_upd (fun _ => (.int (0 : Int32))) 1 (.int x0)) 0 (.int x1))
set_option maxRecDepth 65536 in
set_option maxHeartbeats 40000000 in
theorem own_wk2 (l : Launch) (Z : State) (a0 : Array Value) (hw : ∀ d ∈ tables_1, d.before a0 Z = true) (ws : List Jvm.Cond) (pr : Addr) (x0 : Int32) (x1 : Int32) (k0 k1 : Nat) (f : Nat → Value) (h0 : Heap) (n0 : Nat) (Z0 : n0 ≤ h0.size) (ha0 : own_At x0 k0) (hl0 : k0 < 4) (hv0 : f k0 = .int x1) (ha1 : own_At x1 k1) (hl1 : k1 < 4) (hv1 : f k1 = .int (-1 : Int32)) (hn1 : ¬ x1 = (-1 : Int32)) (A_pr : own_Av Z h0 pr .int 4 f) :
    MetFree l (⟨"com/example/geodesic/geodesic/graph/ShortestPaths", "walk", "([II)[I"⟩ : MethodName) (head1 (Jvm.Cond.code (⟨"com/example/geodesic/geodesic/graph/ShortestPaths", "walk", "([II)[I"⟩ : MethodName) prog_17_method_8_code 6 (some (.array .int)) :: ws) ({ frames := 0, cells := 1, slots := 2, locals := 0 } : Room)) (fun a U => a = #[(.ref pr), (.int x0)] ∧ Z.Warmed39 U.vm ∧ U.heap = h0) (fun _ _ _ _ _ => True) (fun _ U o U' => ∃ v L, o = .returned v ∧ own_q_own_wk2 Z pr x0 x1 k0 k1 f h0 n0 v U'.heap L ∧ FrameEnd U o U' L ({ frames := 0, cells := 1, slots := 2, locals := 0 } : Room).cells ({ frames := 0, cells := 1, slots := 2, locals := 0 } : Room).slots) := by
  refine MetFree.of_bodySF (plainFor_of_name own_pn_ShortestPaths) hisR ?_
  intro p e s m args below meth c T0 Bd hml0 hP hK
  obtain ⟨rfl, hZ, hh⟩ := hP
  have hx := Bd.exec
  have hby := Bd.bytes
  have hml : c.maxLocals = 6 := hml0
  have hown : s.vm.findClass "com/example/geodesic/geodesic/graph/ShortestPaths" = some m.cls := findClass_of_methodNamed Bd.named
  have hnm := (name_of_methodNamed Bd.named Bd.method).1
  have hret : meth.sig.returnType = (some (.array .int)) := Bd.returns
  have hlk : meth.locks = false := BodyLoose.notSynchronized Bd
  have X0 : Stand p l e ({ frames := 0, cells := 1, slots := 2, locals := 0 } : Room) s m #[(.ref pr), (.int x0)] below meth c T0 [] 0 0 := Stand.of_body Bd
  have e0 : T0.heap = h0 := by rw [← hh, Bd.state]; rfl
  have N0 := Fr.nil n0
  refine own_start (own_ef3 m pr x0) (Q := fun (v : Option Value) (h : Heap) (L : List Loc) => ∃ b : Addr, v = some (.ref b) ∧ Fr n0 L ∧ n0 ≤ b ∧ Keep h0 h [] ∧ own_Av Z h b .int 2 (own_upd (own_upd (fun _ => (.int (0 : Int32))) 1 (.int x0)) 0 (.int x1))) (k := 1) (j := 2) ?_
  show own_Go p e below T0 (mkF m 0 #[.val (.ref pr), .val (.int x0), .unset, .unset, .unset, .unset] []) _
  have K0 := Keep.refl h0 []
  refine own_s_iconst X0.here hx (1 : Int32) (hb hby own_d3_0) rfl ?_
  refine own_s_istoreN X0.here hx #[.val (.ref pr), .val (.int x0), .val (.int (1 : Int32)), .unset, .unset, .unset] (hb hby own_d3_1) rfl ?_
  refine own_s_aloadN X0.here hx (hb hby own_d3_2) rfl rfl ?_
  refine own_s_iloadN X0.here hx (hb hby own_d3_3) rfl ?_
  refine own_by (fun tq_ kq_ => own_ldI X0 hx hZ e0 A_pr (k := k0) (v := (.int x1)) ha0 hl0 hv0 (g := (mkF m 4 #[.val (.ref pr), .val (.int x0), .val (.int (1 : Int32)), .unset, .unset, .unset] [(.int x0), (.ref pr)])) rfl rfl (hb hby own_d3_4) tq_ kq_) ?_
  show own_Go p e below T0 (mkF m 5 #[.val (.ref pr), .val (.int x0), .val (.int (1 : Int32)), .unset, .unset, .unset] [(.int x1)]) _
  refine own_s_istoreN X0.here hx #[.val (.ref pr), .val (.int x0), .val (.int (1 : Int32)), .val (.int x1), .unset, .unset] (hb hby own_d3_5) rfl ?_
  refine own_s_iloadN X0.here hx (hb hby own_d3_6) rfl ?_
  refine own_s_iconst X0.here hx (-1 : Int32) (hb hby own_d3_7) rfl ?_
  refine own_s_icmpNo X0.here hx (hb hby own_d3_8) (Jvm.Free.XT.ii_eq_f hn1) ?_
  refine own_by (fun tq_ kq_ => XS.iinc X0.here hx rfl (hb hby own_d3_11) rfl (l' := #[.val (.ref pr), .val (.int x0), .val (.int ((1 : Int32) + (1 : Int32))), .val (.int x1), .unset, .unset]) rfl kq_) ?_
  show own_Go p e below T0 (mkF m 14 #[.val (.ref pr), .val (.int x0), .val (.int ((1 : Int32) + (1 : Int32))), .val (.int x1), .unset, .unset] []) _
  show own_Go p e below T0 (mkF m 14 #[.val (.ref pr), .val (.int x0), .val (.int (2 : Int32)), .val (.int x1), .unset, .unset] []) _
  refine own_s_aloadN X0.here hx (hb hby own_d3_14) rfl rfl ?_
  refine own_s_iloadN X0.here hx (hb hby own_d3_15) rfl ?_
  refine own_by (fun tq_ kq_ => own_ldI X0 hx hZ e0 A_pr (k := k1) (v := (.int (-1 : Int32))) ha1 hl1 hv1 (g := (mkF m 16 #[.val (.ref pr), .val (.int x0), .val (.int (2 : Int32)), .val (.int x1), .unset, .unset] [(.int x1), (.ref pr)])) rfl rfl (hb hby own_d3_16) tq_ kq_) ?_
  show own_Go p e below T0 (mkF m 17 #[.val (.ref pr), .val (.int x0), .val (.int (2 : Int32)), .val (.int x1), .unset, .unset] [(.int (-1 : Int32))]) _
  refine own_s_istoreN X0.here hx #[.val (.ref pr), .val (.int x0), .val (.int (2 : Int32)), .val (.int (-1 : Int32)), .unset, .unset] (hb hby own_d3_17) rfl ?_
  show own_Go p e below T0 (mkF m 18 #[.val (.ref pr), .val (.int x0), .val (.int (2 : Int32)), .val (.int (-1 : Int32)), .unset, .unset] []) _
  refine own_s_goto X0.here hx 6 (hb hby own_d3_18) (by decide) (by decide) ?_
  refine own_s_iloadN X0.here hx (hb hby own_d3_6) rfl ?_
  refine own_s_iconst X0.here hx (-1 : Int32) (hb hby own_d3_7) rfl ?_
  show own_Go p e below T0 (mkF m 8 #[.val (.ref pr), .val (.int x0), .val (.int (2 : Int32)), .val (.int (-1 : Int32)), .unset, .unset] [(.int (-1 : Int32)), (.int (-1 : Int32))]) _
  refine own_s_icmpYes X0.here hx 21 (hb hby own_d3_8) (Jvm.Free.XT.ii_eq_t ((by decide))) (by decide) (by decide) ?_
  refine own_s_iloadN X0.here hx (hb hby own_d3_21) rfl ?_
  obtain ⟨T7, h7, k7, X7, e7, E7, A7, st7⟩ := newP X0 hx hZ (hw _ (List.mem_of_getElem? (i := 0) rfl)) e0 (g := (mkF m 22 #[.val (.ref pr), .val (.int x0), .val (.int (2 : Int32)), .val (.int (-1 : Int32)), .unset, .unset] [(.int (2 : Int32))])) rfl (hb hby own_d3_22) rfl (by decide) (cap := 2) (by decide) (by decide) (by decide) (by decide)
  obtain ⟨b7, g7⟩ : ∃ z, z = h0.size := ⟨_, rfl⟩
  rw [← g7] at A7 st7
  have ge_b7 : n0 ≤ b7 := Nat.le_trans Z0 (Nat.le_of_eq g7.symm)
  have sz_b7 : h0.size ≤ b7 := Nat.le_trans K0.1 (Nat.le_of_eq g7.symm)
  have ne_pr_b7 : pr ≠ b7 := Nat.ne_of_lt (Nat.lt_of_lt_of_le A_pr.lt (Nat.le_of_eq g7.symm))
  have f8 := A_pr.ext E7
  have SZ7 : n0 ≤ h7.size := Nat.le_trans Z0 E7.1
  have K7 := K0.ext E7
  have f9 : own_Av Z h7 b7 .int 2 (fun _ => (.int (0 : Int32))) := own_Av.ofnew A7 (by decide) rfl
  refine own_by st7 ?_
  show own_Go p e below T7 (mkF m 24 #[.val (.ref pr), .val (.int x0), .val (.int (2 : Int32)), .val (.int (-1 : Int32)), .unset, .unset] [(.ref b7)]) _
  refine own_s_astoreN X7.here hx #[.val (.ref pr), .val (.int x0), .val (.int (2 : Int32)), .val (.ref b7), .unset, .unset] (hb hby own_d3_24) rfl rfl ?_
  refine own_s_iloadN X7.here hx (hb hby own_d3_25) rfl ?_
  refine own_s_istore X7.here hx #[.val (.ref pr), .val (.int x0), .val (.int (2 : Int32)), .val (.ref b7), .val (.int x0), .unset] (hb hby own_d3_26) rfl ?_
  refine own_s_iloadN X7.here hx (hb hby own_d3_28) rfl ?_
  refine own_s_iconst X7.here hx (1 : Int32) (hb hby own_d3_29) rfl ?_
  refine own_s_isub X7.here hx (hb hby own_d3_30) ?_
  show own_Go p e below T7 (mkF m 31 #[.val (.ref pr), .val (.int x0), .val (.int (2 : Int32)), .val (.ref b7), .val (.int x0), .unset] [(.int (1 : Int32))]) _
  refine own_s_istore X7.here hx #[.val (.ref pr), .val (.int x0), .val (.int (2 : Int32)), .val (.ref b7), .val (.int x0), .val (.int (1 : Int32))] (hb hby own_d3_31) rfl ?_
  refine own_s_iload X7.here hx (hb hby own_d3_33) rfl ?_
  refine own_s_ifNo X7.here hx (hb hby own_d3_35) (Jvm.Free.XT.i0_lt_f ((by decide))) ?_
  refine own_s_aloadN X7.here hx (hb hby own_d3_38) rfl rfl ?_
  refine own_s_iload X7.here hx (hb hby own_d3_39) rfl ?_
  refine own_s_iload X7.here hx (hb hby own_d3_41) rfl ?_
  obtain ⟨T10, h10, X10, e10, W10, fa10, st10⟩ := own_stI X7 hx hZ e7 f9 (k := 1) (by decide) (by decide) (g := (mkF m 43 #[.val (.ref pr), .val (.int x0), .val (.int (2 : Int32)), .val (.ref b7), .val (.int x0), .val (.int (1 : Int32))] [(.int x0), (.int (1 : Int32)), (.ref b7)])) rfl rfl (hb hby own_d3_43)
  have f11 := f8.other W10 ne_pr_b7
  have N10 := Fr.snoc X10 N0 ge_b7
  have SZ10 : n0 ≤ h10.size := by rw [W10.size]; exact SZ7
  have K10 := K7.wr W10 (Or.inr sz_b7)
  refine own_by st10 ?_
  show own_Go p e below T10 (mkF m 44 #[.val (.ref pr), .val (.int x0), .val (.int (2 : Int32)), .val (.ref b7), .val (.int x0), .val (.int (1 : Int32))] []) _
  refine own_s_aloadN X10.here hx (hb hby own_d3_44) rfl rfl ?_
  refine own_s_iload X10.here hx (hb hby own_d3_45) rfl ?_
  refine own_by (fun tq_ kq_ => own_ldI X10 hx hZ e10 f11 (k := k0) (v := (.int x1)) ha0 hl0 hv0 (g := (mkF m 47 #[.val (.ref pr), .val (.int x0), .val (.int (2 : Int32)), .val (.ref b7), .val (.int x0), .val (.int (1 : Int32))] [(.int x0), (.ref pr)])) rfl rfl (hb hby own_d3_47) tq_ kq_) ?_
  show own_Go p e below T10 (mkF m 48 #[.val (.ref pr), .val (.int x0), .val (.int (2 : Int32)), .val (.ref b7), .val (.int x0), .val (.int (1 : Int32))] [(.int x1)]) _
  refine own_s_istore X10.here hx #[.val (.ref pr), .val (.int x0), .val (.int (2 : Int32)), .val (.ref b7), .val (.int x1), .val (.int (1 : Int32))] (hb hby own_d3_48) rfl ?_
  refine own_by (fun tq_ kq_ => XS.iinc X10.here hx rfl (hb hby own_d3_50) rfl (l' := #[.val (.ref pr), .val (.int x0), .val (.int (2 : Int32)), .val (.ref b7), .val (.int x1), .val (.int ((1 : Int32) + (-1 : Int32)))]) rfl kq_) ?_
  show own_Go p e below T10 (mkF m 53 #[.val (.ref pr), .val (.int x0), .val (.int (2 : Int32)), .val (.ref b7), .val (.int x1), .val (.int ((1 : Int32) + (-1 : Int32)))] []) _
  show own_Go p e below T10 (mkF m 53 #[.val (.ref pr), .val (.int x0), .val (.int (2 : Int32)), .val (.ref b7), .val (.int x1), .val (.int (0 : Int32))] []) _
  refine own_s_goto X10.here hx 33 (hb hby own_d3_53) (by decide) (by decide) ?_
  refine own_s_iload X10.here hx (hb hby own_d3_33) rfl ?_
  refine own_s_ifNo X10.here hx (hb hby own_d3_35) (Jvm.Free.XT.i0_lt_f ((by decide))) ?_
  refine own_s_aloadN X10.here hx (hb hby own_d3_38) rfl rfl ?_
  refine own_s_iload X10.here hx (hb hby own_d3_39) rfl ?_
  refine own_s_iload X10.here hx (hb hby own_d3_41) rfl ?_
  obtain ⟨T12, h12, X12, e12, W12, fa12, st12⟩ := own_stI X10 hx hZ e10 fa10 (k := 0) (by decide) (by decide) (g := (mkF m 43 #[.val (.ref pr), .val (.int x0), .val (.int (2 : Int32)), .val (.ref b7), .val (.int x1), .val (.int (0 : Int32))] [(.int x1), (.int (0 : Int32)), (.ref b7)])) rfl rfl (hb hby own_d3_43)
  have f13 := f11.other W12 ne_pr_b7
  have N12 := Fr.snoc X12 N10 ge_b7
  have SZ12 : n0 ≤ h12.size := by rw [W12.size]; exact SZ10
  have K12 := K10.wr W12 (Or.inr sz_b7)
  refine own_by st12 ?_
  show own_Go p e below T12 (mkF m 44 #[.val (.ref pr), .val (.int x0), .val (.int (2 : Int32)), .val (.ref b7), .val (.int x1), .val (.int (0 : Int32))] []) _
  refine own_s_aloadN X12.here hx (hb hby own_d3_44) rfl rfl ?_
  refine own_s_iload X12.here hx (hb hby own_d3_45) rfl ?_
  refine own_by (fun tq_ kq_ => own_ldI X12 hx hZ e12 f13 (k := k1) (v := (.int (-1 : Int32))) ha1 hl1 hv1 (g := (mkF m 47 #[.val (.ref pr), .val (.int x0), .val (.int (2 : Int32)), .val (.ref b7), .val (.int x1), .val (.int (0 : Int32))] [(.int x1), (.ref pr)])) rfl rfl (hb hby own_d3_47) tq_ kq_) ?_
  show own_Go p e below T12 (mkF m 48 #[.val (.ref pr), .val (.int x0), .val (.int (2 : Int32)), .val (.ref b7), .val (.int x1), .val (.int (0 : Int32))] [(.int (-1 : Int32))]) _
  refine own_s_istore X12.here hx #[.val (.ref pr), .val (.int x0), .val (.int (2 : Int32)), .val (.ref b7), .val (.int (-1 : Int32)), .val (.int (0 : Int32))] (hb hby own_d3_48) rfl ?_
  refine own_by (fun tq_ kq_ => XS.iinc X12.here hx rfl (hb hby own_d3_50) rfl (l' := #[.val (.ref pr), .val (.int x0), .val (.int (2 : Int32)), .val (.ref b7), .val (.int (-1 : Int32)), .val (.int ((0 : Int32) + (-1 : Int32)))]) rfl kq_) ?_
  show own_Go p e below T12 (mkF m 53 #[.val (.ref pr), .val (.int x0), .val (.int (2 : Int32)), .val (.ref b7), .val (.int (-1 : Int32)), .val (.int ((0 : Int32) + (-1 : Int32)))] []) _
  show own_Go p e below T12 (mkF m 53 #[.val (.ref pr), .val (.int x0), .val (.int (2 : Int32)), .val (.ref b7), .val (.int (-1 : Int32)), .val (.int (-1 : Int32))] []) _
  refine own_s_goto X12.here hx 33 (hb hby own_d3_53) (by decide) (by decide) ?_
  refine own_s_iload X12.here hx (hb hby own_d3_33) rfl ?_
  show own_Go p e below T12 (mkF m 35 #[.val (.ref pr), .val (.int x0), .val (.int (2 : Int32)), .val (.ref b7), .val (.int (-1 : Int32)), .val (.int (-1 : Int32))] [(.int (-1 : Int32))]) _
  refine own_s_ifYes X12.here hx 56 (hb hby own_d3_35) (Jvm.Free.XT.i0_lt_t ((by decide))) (by decide) (by decide) ?_
  refine own_s_aloadN X12.here hx (hb hby own_d3_56) rfl rfl ?_
  refine own_retA X12 hx hret hlk (hb hby own_d3_57) rfl rfl rfl (by decide) (by decide) ?_
  rw [e12]
  exact ⟨b7, rfl, N12, ge_b7, K12, fa12⟩
def own_q_own_wk3 (Z : State) (pr : Addr) (x0 : Int32) (x1 x2 : Int32) (k0 k1 k2 : Nat) (f : Nat → Value) (h0 : Heap) (n0 : Nat) (v : Option Value) (h : Heap) (L : List Loc) : Prop := ∃ b : Addr, v = some (.ref b) ∧ Fr n0 L ∧ n0 ≤ b ∧ Keep h0 h [] ∧ own_Av Z h b .int 3 (own_upd (own_upd (own_upd (fun _ => (.int (0 : Int32))) 2 (.int x0)) 1 (.int x1)) 0 (.int x2))
set_option maxRecDepth 65536 in
set_option maxHeartbeats 40000000 in
theorem own_wk3 (l : Launch) (Z : State) (a0 : Array Value) (hw : ∀ d ∈ tables_1, d.before a0 Z = true) (ws : List Jvm.Cond) (pr : Addr) (x0 : Int32) (x1 x2 : Int32) (k0 k1 k2 : Nat) (f : Nat → Value) (h0 : Heap) (n0 : Nat) (Z0 : n0 ≤ h0.size) (ha0 : own_At x0 k0) (hl0 : k0 < 4) (hv0 : f k0 = .int x1) (ha1 : own_At x1 k1) (hl1 : k1 < 4) (hv1 : f k1 = .int x2) (hn1 : ¬ x1 = (-1 : Int32)) (ha2 : own_At x2 k2) (hl2 : k2 < 4) (hv2 : f k2 = .int (-1 : Int32)) (hn2 : ¬ x2 = (-1 : Int32)) (A_pr : own_Av Z h0 pr .int 4 f) :
    MetFree l (⟨"com/example/geodesic/geodesic/graph/ShortestPaths", "walk", "([II)[I"⟩ : MethodName) (head1 (Jvm.Cond.code (⟨"com/example/geodesic/geodesic/graph/ShortestPaths", "walk", "([II)[I"⟩ : MethodName) prog_17_method_8_code 6 (some (.array .int)) :: ws) ({ frames := 0, cells := 1, slots := 3, locals := 0 } : Room)) (fun a U => a = #[(.ref pr), (.int x0)] ∧ Z.Warmed39 U.vm ∧ U.heap = h0) (fun _ _ _ _ _ => True) (fun _ U o U' => ∃ v L, o = .returned v ∧ own_q_own_wk3 Z pr x0 x1 x2 k0 k1 k2 f h0 n0 v U'.heap L ∧ FrameEnd U o U' L ({ frames := 0, cells := 1, slots := 3, locals := 0 } : Room).cells ({ frames := 0, cells := 1, slots := 3, locals := 0 } : Room).slots) := by
  refine MetFree.of_bodySF (plainFor_of_name own_pn_ShortestPaths) hisR ?_
  intro p e s m args below meth c T0 Bd hml0 hP hK
  obtain ⟨rfl, hZ, hh⟩ := hP
  have hx := Bd.exec
  have hby := Bd.bytes
  have hml : c.maxLocals = 6 := hml0
  have hown : s.vm.findClass "com/example/geodesic/geodesic/graph/ShortestPaths" = some m.cls := findClass_of_methodNamed Bd.named
  have hnm := (name_of_methodNamed Bd.named Bd.method).1
  have hret : meth.sig.returnType = (some (.array .int)) := Bd.returns
  have hlk : meth.locks = false := BodyLoose.notSynchronized Bd
  have X0 : Stand p l e ({ frames := 0, cells := 1, slots := 3, locals := 0 } : Room) s m #[(.ref pr), (.int x0)] below meth c T0 [] 0 0 := Stand.of_body Bd
  have e0 : T0.heap = h0 := by rw [← hh, Bd.state]; rfl
  have N0 := Fr.nil n0
  refine own_start (own_ef3 m pr x0) (Q := fun (v : Option Value) (h : Heap) (L : List Loc) => ∃ b : Addr, v = some (.ref b) ∧ Fr n0 L ∧ n0 ≤ b ∧ Keep h0 h [] ∧ own_Av Z h b .int 3 (own_upd (own_upd (own_upd (fun _ => (.int (0 : Int32))) 2 (.int x0)) 1 (.int x1)) 0 (.int x2))) (k := 1) (j := 3) ?_
  show own_Go p e below T0 (mkF m 0 #[.val (.ref pr), .val (.int x0), .unset, .unset, .unset, .unset] []) _
  have K0 := Keep.refl h0 []
  refine own_s_iconst X0.here hx (1 : Int32) (hb hby own_d3_0) rfl ?_
  refine own_s_istoreN X0.here hx #[.val (.ref pr), .val (.int x0), .val (.int (1 : Int32)), .unset, .unset, .unset] (hb hby own_d3_1) rfl ?_
  refine own_s_aloadN X0.here hx (hb hby own_d3_2) rfl rfl ?_
  refine own_s_iloadN X0.here hx (hb hby own_d3_3) rfl ?_
  refine own_by (fun tq_ kq_ => own_ldI X0 hx hZ e0 A_pr (k := k0) (v := (.int x1)) ha0 hl0 hv0 (g := (mkF m 4 #[.val (.ref pr), .val (.int x0), .val (.int (1 : Int32)), .unset, .unset, .unset] [(.int x0), (.ref pr)])) rfl rfl (hb hby own_d3_4) tq_ kq_) ?_
  show own_Go p e below T0 (mkF m 5 #[.val (.ref pr), .val (.int x0), .val (.int (1 : Int32)), .unset, .unset, .unset] [(.int x1)]) _
  refine own_s_istoreN X0.here hx #[.val (.ref pr), .val (.int x0), .val (.int (1 : Int32)), .val (.int x1), .unset, .unset] (hb hby own_d3_5) rfl ?_
  refine own_s_iloadN X0.here hx (hb hby own_d3_6) rfl ?_
  refine own_s_iconst X0.here hx (-1 : Int32) (hb hby own_d3_7) rfl ?_
  refine own_s_icmpNo X0.here hx (hb hby own_d3_8) (Jvm.Free.XT.ii_eq_f hn1) ?_
  refine own_by (fun tq_ kq_ => XS.iinc X0.here hx rfl (hb hby own_d3_11) rfl (l' := #[.val (.ref pr), .val (.int x0), .val (.int ((1 : Int32) + (1 : Int32))), .val (.int x1), .unset, .unset]) rfl kq_) ?_
  show own_Go p e below T0 (mkF m 14 #[.val (.ref pr), .val (.int x0), .val (.int ((1 : Int32) + (1 : Int32))), .val (.int x1), .unset, .unset] []) _
  show own_Go p e below T0 (mkF m 14 #[.val (.ref pr), .val (.int x0), .val (.int (2 : Int32)), .val (.int x1), .unset, .unset] []) _
  refine own_s_aloadN X0.here hx (hb hby own_d3_14) rfl rfl ?_
  refine own_s_iloadN X0.here hx (hb hby own_d3_15) rfl ?_
  refine own_by (fun tq_ kq_ => own_ldI X0 hx hZ e0 A_pr (k := k1) (v := (.int x2)) ha1 hl1 hv1 (g := (mkF m 16 #[.val (.ref pr), .val (.int x0), .val (.int (2 : Int32)), .val (.int x1), .unset, .unset] [(.int x1), (.ref pr)])) rfl rfl (hb hby own_d3_16) tq_ kq_) ?_
  show own_Go p e below T0 (mkF m 17 #[.val (.ref pr), .val (.int x0), .val (.int (2 : Int32)), .val (.int x1), .unset, .unset] [(.int x2)]) _
  refine own_s_istoreN X0.here hx #[.val (.ref pr), .val (.int x0), .val (.int (2 : Int32)), .val (.int x2), .unset, .unset] (hb hby own_d3_17) rfl ?_
  show own_Go p e below T0 (mkF m 18 #[.val (.ref pr), .val (.int x0), .val (.int (2 : Int32)), .val (.int x2), .unset, .unset] []) _
  refine own_s_goto X0.here hx 6 (hb hby own_d3_18) (by decide) (by decide) ?_
  refine own_s_iloadN X0.here hx (hb hby own_d3_6) rfl ?_
  refine own_s_iconst X0.here hx (-1 : Int32) (hb hby own_d3_7) rfl ?_
  refine own_s_icmpNo X0.here hx (hb hby own_d3_8) (Jvm.Free.XT.ii_eq_f hn2) ?_
  refine own_by (fun tq_ kq_ => XS.iinc X0.here hx rfl (hb hby own_d3_11) rfl (l' := #[.val (.ref pr), .val (.int x0), .val (.int ((2 : Int32) + (1 : Int32))), .val (.int x2), .unset, .unset]) rfl kq_) ?_
  show own_Go p e below T0 (mkF m 14 #[.val (.ref pr), .val (.int x0), .val (.int ((2 : Int32) + (1 : Int32))), .val (.int x2), .unset, .unset] []) _
  show own_Go p e below T0 (mkF m 14 #[.val (.ref pr), .val (.int x0), .val (.int (3 : Int32)), .val (.int x2), .unset, .unset] []) _
  refine own_s_aloadN X0.here hx (hb hby own_d3_14) rfl rfl ?_
  refine own_s_iloadN X0.here hx (hb hby own_d3_15) rfl ?_
  refine own_by (fun tq_ kq_ => own_ldI X0 hx hZ e0 A_pr (k := k2) (v := (.int (-1 : Int32))) ha2 hl2 hv2 (g := (mkF m 16 #[.val (.ref pr), .val (.int x0), .val (.int (3 : Int32)), .val (.int x2), .unset, .unset] [(.int x2), (.ref pr)])) rfl rfl (hb hby own_d3_16) tq_ kq_) ?_
  show own_Go p e below T0 (mkF m 17 #[.val (.ref pr), .val (.int x0), .val (.int (3 : Int32)), .val (.int x2), .unset, .unset] [(.int (-1 : Int32))]) _
  refine own_s_istoreN X0.here hx #[.val (.ref pr), .val (.int x0), .val (.int (3 : Int32)), .val (.int (-1 : Int32)), .unset, .unset] (hb hby own_d3_17) rfl ?_
  show own_Go p e below T0 (mkF m 18 #[.val (.ref pr), .val (.int x0), .val (.int (3 : Int32)), .val (.int (-1 : Int32)), .unset, .unset] []) _
  refine own_s_goto X0.here hx 6 (hb hby own_d3_18) (by decide) (by decide) ?_
  refine own_s_iloadN X0.here hx (hb hby own_d3_6) rfl ?_
  refine own_s_iconst X0.here hx (-1 : Int32) (hb hby own_d3_7) rfl ?_
  show own_Go p e below T0 (mkF m 8 #[.val (.ref pr), .val (.int x0), .val (.int (3 : Int32)), .val (.int (-1 : Int32)), .unset, .unset] [(.int (-1 : Int32)), (.int (-1 : Int32))]) _
  refine own_s_icmpYes X0.here hx 21 (hb hby own_d3_8) (Jvm.Free.XT.ii_eq_t ((by decide))) (by decide) (by decide) ?_
  refine own_s_iloadN X0.here hx (hb hby own_d3_21) rfl ?_
  obtain ⟨T14, h14, k14, X14, e14, E14, A14, st14⟩ := newP X0 hx hZ (hw _ (List.mem_of_getElem? (i := 0) rfl)) e0 (g := (mkF m 22 #[.val (.ref pr), .val (.int x0), .val (.int (3 : Int32)), .val (.int (-1 : Int32)), .unset, .unset] [(.int (3 : Int32))])) rfl (hb hby own_d3_22) rfl (by decide) (cap := 3) (by decide) (by decide) (by decide) (by decide)
  obtain ⟨b14, g14⟩ : ∃ z, z = h0.size := ⟨_, rfl⟩
  rw [← g14] at A14 st14
  have ge_b14 : n0 ≤ b14 := Nat.le_trans Z0 (Nat.le_of_eq g14.symm)
  have sz_b14 : h0.size ≤ b14 := Nat.le_trans K0.1 (Nat.le_of_eq g14.symm)
  have ne_pr_b14 : pr ≠ b14 := Nat.ne_of_lt (Nat.lt_of_lt_of_le A_pr.lt (Nat.le_of_eq g14.symm))
  have f15 := A_pr.ext E14
  have SZ14 : n0 ≤ h14.size := Nat.le_trans Z0 E14.1
  have K14 := K0.ext E14
  have f16 : own_Av Z h14 b14 .int 3 (fun _ => (.int (0 : Int32))) := own_Av.ofnew A14 (by decide) rfl
  refine own_by st14 ?_
  show own_Go p e below T14 (mkF m 24 #[.val (.ref pr), .val (.int x0), .val (.int (3 : Int32)), .val (.int (-1 : Int32)), .unset, .unset] [(.ref b14)]) _
  refine own_s_astoreN X14.here hx #[.val (.ref pr), .val (.int x0), .val (.int (3 : Int32)), .val (.ref b14), .unset, .unset] (hb hby own_d3_24) rfl rfl ?_
  refine own_s_iloadN X14.here hx (hb hby own_d3_25) rfl ?_
  refine own_s_istore X14.here hx #[.val (.ref pr), .val (.int x0), .val (.int (3 : Int32)), .val (.ref b14), .val (.int x0), .unset] (hb hby own_d3_26) rfl ?_
  refine own_s_iloadN X14.here hx (hb hby own_d3_28) rfl ?_
  refine own_s_iconst X14.here hx (1 : Int32) (hb hby own_d3_29) rfl ?_
  refine own_s_isub X14.here hx (hb hby own_d3_30) ?_
  show own_Go p e below T14 (mkF m 31 #[.val (.ref pr), .val (.int x0), .val (.int (3 : Int32)), .val (.ref b14), .val (.int x0), .unset] [(.int (2 : Int32))]) _
  refine own_s_istore X14.here hx #[.val (.ref pr), .val (.int x0), .val (.int (3 : Int32)), .val (.ref b14), .val (.int x0), .val (.int (2 : Int32))] (hb hby own_d3_31) rfl ?_
  refine own_s_iload X14.here hx (hb hby own_d3_33) rfl ?_
  refine own_s_ifNo X14.here hx (hb hby own_d3_35) (Jvm.Free.XT.i0_lt_f ((by decide))) ?_
  refine own_s_aloadN X14.here hx (hb hby own_d3_38) rfl rfl ?_
  refine own_s_iload X14.here hx (hb hby own_d3_39) rfl ?_
  refine own_s_iload X14.here hx (hb hby own_d3_41) rfl ?_
  obtain ⟨T17, h17, X17, e17, W17, fa17, st17⟩ := own_stI X14 hx hZ e14 f16 (k := 2) (by decide) (by decide) (g := (mkF m 43 #[.val (.ref pr), .val (.int x0), .val (.int (3 : Int32)), .val (.ref b14), .val (.int x0), .val (.int (2 : Int32))] [(.int x0), (.int (2 : Int32)), (.ref b14)])) rfl rfl (hb hby own_d3_43)
  have f18 := f15.other W17 ne_pr_b14
  have N17 := Fr.snoc X17 N0 ge_b14
  have SZ17 : n0 ≤ h17.size := by rw [W17.size]; exact SZ14
  have K17 := K14.wr W17 (Or.inr sz_b14)
  refine own_by st17 ?_
  show own_Go p e below T17 (mkF m 44 #[.val (.ref pr), .val (.int x0), .val (.int (3 : Int32)), .val (.ref b14), .val (.int x0), .val (.int (2 : Int32))] []) _
  refine own_s_aloadN X17.here hx (hb hby own_d3_44) rfl rfl ?_
  refine own_s_iload X17.here hx (hb hby own_d3_45) rfl ?_
  refine own_by (fun tq_ kq_ => own_ldI X17 hx hZ e17 f18 (k := k0) (v := (.int x1)) ha0 hl0 hv0 (g := (mkF m 47 #[.val (.ref pr), .val (.int x0), .val (.int (3 : Int32)), .val (.ref b14), .val (.int x0), .val (.int (2 : Int32))] [(.int x0), (.ref pr)])) rfl rfl (hb hby own_d3_47) tq_ kq_) ?_
  show own_Go p e below T17 (mkF m 48 #[.val (.ref pr), .val (.int x0), .val (.int (3 : Int32)), .val (.ref b14), .val (.int x0), .val (.int (2 : Int32))] [(.int x1)]) _
  refine own_s_istore X17.here hx #[.val (.ref pr), .val (.int x0), .val (.int (3 : Int32)), .val (.ref b14), .val (.int x1), .val (.int (2 : Int32))] (hb hby own_d3_48) rfl ?_
  refine own_by (fun tq_ kq_ => XS.iinc X17.here hx rfl (hb hby own_d3_50) rfl (l' := #[.val (.ref pr), .val (.int x0), .val (.int (3 : Int32)), .val (.ref b14), .val (.int x1), .val (.int ((2 : Int32) + (-1 : Int32)))]) rfl kq_) ?_
  show own_Go p e below T17 (mkF m 53 #[.val (.ref pr), .val (.int x0), .val (.int (3 : Int32)), .val (.ref b14), .val (.int x1), .val (.int ((2 : Int32) + (-1 : Int32)))] []) _
  show own_Go p e below T17 (mkF m 53 #[.val (.ref pr), .val (.int x0), .val (.int (3 : Int32)), .val (.ref b14), .val (.int x1), .val (.int (1 : Int32))] []) _
  refine own_s_goto X17.here hx 33 (hb hby own_d3_53) (by decide) (by decide) ?_
  refine own_s_iload X17.here hx (hb hby own_d3_33) rfl ?_
  refine own_s_ifNo X17.here hx (hb hby own_d3_35) (Jvm.Free.XT.i0_lt_f ((by decide))) ?_
  refine own_s_aloadN X17.here hx (hb hby own_d3_38) rfl rfl ?_
  refine own_s_iload X17.here hx (hb hby own_d3_39) rfl ?_
  refine own_s_iload X17.here hx (hb hby own_d3_41) rfl ?_
  obtain ⟨T19, h19, X19, e19, W19, fa19, st19⟩ := own_stI X17 hx hZ e17 fa17 (k := 1) (by decide) (by decide) (g := (mkF m 43 #[.val (.ref pr), .val (.int x0), .val (.int (3 : Int32)), .val (.ref b14), .val (.int x1), .val (.int (1 : Int32))] [(.int x1), (.int (1 : Int32)), (.ref b14)])) rfl rfl (hb hby own_d3_43)
  have f20 := f18.other W19 ne_pr_b14
  have N19 := Fr.snoc X19 N17 ge_b14
  have SZ19 : n0 ≤ h19.size := by rw [W19.size]; exact SZ17
  have K19 := K17.wr W19 (Or.inr sz_b14)
  refine own_by st19 ?_
  show own_Go p e below T19 (mkF m 44 #[.val (.ref pr), .val (.int x0), .val (.int (3 : Int32)), .val (.ref b14), .val (.int x1), .val (.int (1 : Int32))] []) _
  refine own_s_aloadN X19.here hx (hb hby own_d3_44) rfl rfl ?_
  refine own_s_iload X19.here hx (hb hby own_d3_45) rfl ?_
  refine own_by (fun tq_ kq_ => own_ldI X19 hx hZ e19 f20 (k := k1) (v := (.int x2)) ha1 hl1 hv1 (g := (mkF m 47 #[.val (.ref pr), .val (.int x0), .val (.int (3 : Int32)), .val (.ref b14), .val (.int x1), .val (.int (1 : Int32))] [(.int x1), (.ref pr)])) rfl rfl (hb hby own_d3_47) tq_ kq_) ?_
  show own_Go p e below T19 (mkF m 48 #[.val (.ref pr), .val (.int x0), .val (.int (3 : Int32)), .val (.ref b14), .val (.int x1), .val (.int (1 : Int32))] [(.int x2)]) _
  refine own_s_istore X19.here hx #[.val (.ref pr), .val (.int x0), .val (.int (3 : Int32)), .val (.ref b14), .val (.int x2), .val (.int (1 : Int32))] (hb hby own_d3_48) rfl ?_
  refine own_by (fun tq_ kq_ => XS.iinc X19.here hx rfl (hb hby own_d3_50) rfl (l' := #[.val (.ref pr), .val (.int x0), .val (.int (3 : Int32)), .val (.ref b14), .val (.int x2), .val (.int ((1 : Int32) + (-1 : Int32)))]) rfl kq_) ?_
  show own_Go p e below T19 (mkF m 53 #[.val (.ref pr), .val (.int x0), .val (.int (3 : Int32)), .val (.ref b14), .val (.int x2), .val (.int ((1 : Int32) + (-1 : Int32)))] []) _
  show own_Go p e below T19 (mkF m 53 #[.val (.ref pr), .val (.int x0), .val (.int (3 : Int32)), .val (.ref b14), .val (.int x2), .val (.int (0 : Int32))] []) _
  refine own_s_goto X19.here hx 33 (hb hby own_d3_53) (by decide) (by decide) ?_
  refine own_s_iload X19.here hx (hb hby own_d3_33) rfl ?_
  refine own_s_ifNo X19.here hx (hb hby own_d3_35) (Jvm.Free.XT.i0_lt_f ((by decide))) ?_
  refine own_s_aloadN X19.here hx (hb hby own_d3_38) rfl rfl ?_
  refine own_s_iload X19.here hx (hb hby own_d3_39) rfl ?_
  refine own_s_iload X19.here hx (hb hby own_d3_41) rfl ?_
  obtain ⟨T21, h21, X21, e21, W21, fa21, st21⟩ := own_stI X19 hx hZ e19 fa19 (k := 0) (by decide) (by decide) (g := (mkF m 43 #[.val (.ref pr), .val (.int x0), .val (.int (3 : Int32)), .val (.ref b14), .val (.int x2), .val (.int (0 : Int32))] [(.int x2), (.int (0 : Int32)), (.ref b14)])) rfl rfl (hb hby own_d3_43)
  have f22 := f20.other W21 ne_pr_b14
  have N21 := Fr.snoc X21 N19 ge_b14
  have SZ21 : n0 ≤ h21.size := by rw [W21.size]; exact SZ19
  have K21 := K19.wr W21 (Or.inr sz_b14)
  refine own_by st21 ?_
  show own_Go p e below T21 (mkF m 44 #[.val (.ref pr), .val (.int x0), .val (.int (3 : Int32)), .val (.ref b14), .val (.int x2), .val (.int (0 : Int32))] []) _
  refine own_s_aloadN X21.here hx (hb hby own_d3_44) rfl rfl ?_
  refine own_s_iload X21.here hx (hb hby own_d3_45) rfl ?_
  refine own_by (fun tq_ kq_ => own_ldI X21 hx hZ e21 f22 (k := k2) (v := (.int (-1 : Int32))) ha2 hl2 hv2 (g := (mkF m 47 #[.val (.ref pr), .val (.int x0), .val (.int (3 : Int32)), .val (.ref b14), .val (.int x2), .val (.int (0 : Int32))] [(.int x2), (.ref pr)])) rfl rfl (hb hby own_d3_47) tq_ kq_) ?_
  show own_Go p e below T21 (mkF m 48 #[.val (.ref pr), .val (.int x0), .val (.int (3 : Int32)), .val (.ref b14), .val (.int x2), .val (.int (0 : Int32))] [(.int (-1 : Int32))]) _
  refine own_s_istore X21.here hx #[.val (.ref pr), .val (.int x0), .val (.int (3 : Int32)), .val (.ref b14), .val (.int (-1 : Int32)), .val (.int (0 : Int32))] (hb hby own_d3_48) rfl ?_
  refine own_by (fun tq_ kq_ => XS.iinc X21.here hx rfl (hb hby own_d3_50) rfl (l' := #[.val (.ref pr), .val (.int x0), .val (.int (3 : Int32)), .val (.ref b14), .val (.int (-1 : Int32)), .val (.int ((0 : Int32) + (-1 : Int32)))]) rfl kq_) ?_
  show own_Go p e below T21 (mkF m 53 #[.val (.ref pr), .val (.int x0), .val (.int (3 : Int32)), .val (.ref b14), .val (.int (-1 : Int32)), .val (.int ((0 : Int32) + (-1 : Int32)))] []) _
  show own_Go p e below T21 (mkF m 53 #[.val (.ref pr), .val (.int x0), .val (.int (3 : Int32)), .val (.ref b14), .val (.int (-1 : Int32)), .val (.int (-1 : Int32))] []) _
  refine own_s_goto X21.here hx 33 (hb hby own_d3_53) (by decide) (by decide) ?_
  refine own_s_iload X21.here hx (hb hby own_d3_33) rfl ?_
  show own_Go p e below T21 (mkF m 35 #[.val (.ref pr), .val (.int x0), .val (.int (3 : Int32)), .val (.ref b14), .val (.int (-1 : Int32)), .val (.int (-1 : Int32))] [(.int (-1 : Int32))]) _
  refine own_s_ifYes X21.here hx 56 (hb hby own_d3_35) (Jvm.Free.XT.i0_lt_t ((by decide))) (by decide) (by decide) ?_
  refine own_s_aloadN X21.here hx (hb hby own_d3_56) rfl rfl ?_
  refine own_retA X21 hx hret hlk (hb hby own_d3_57) rfl rfl rfl (by decide) (by decide) ?_
  rw [e21]
  exact ⟨b14, rfl, N21, ge_b14, K21, fa21⟩
def own_q_own_wk4 (Z : State) (pr : Addr) (x0 : Int32) (x1 x2 x3 : Int32) (k0 k1 k2 k3 : Nat) (f : Nat → Value) (h0 : Heap) (n0 : Nat) (v : Option Value) (h : Heap) (L : List Loc) : Prop := ∃ b : Addr, v = some (.ref b) ∧ Fr n0 L ∧ n0 ≤ b ∧ Keep h0 h [] ∧ own_Av Z h b .int 4 (own_upd (own_upd (own_upd (own_upd (fun _ => (.int (0 : Int32))) 3 (.int x0)) 2 (.int x1)) 1 (.int x2)) 0 (.int x3))
set_option maxRecDepth 65536 in
set_option maxHeartbeats 40000000 in
theorem own_wk4 (l : Launch) (Z : State) (a0 : Array Value) (hw : ∀ d ∈ tables_1, d.before a0 Z = true) (ws : List Jvm.Cond) (pr : Addr) (x0 : Int32) (x1 x2 x3 : Int32) (k0 k1 k2 k3 : Nat) (f : Nat → Value) (h0 : Heap) (n0 : Nat) (Z0 : n0 ≤ h0.size) (ha0 : own_At x0 k0) (hl0 : k0 < 4) (hv0 : f k0 = .int x1) (ha1 : own_At x1 k1) (hl1 : k1 < 4) (hv1 : f k1 = .int x2) (hn1 : ¬ x1 = (-1 : Int32)) (ha2 : own_At x2 k2) (hl2 : k2 < 4) (hv2 : f k2 = .int x3) (hn2 : ¬ x2 = (-1 : Int32)) (ha3 : own_At x3 k3) (hl3 : k3 < 4) (hv3 : f k3 = .int (-1 : Int32)) (hn3 : ¬ x3 = (-1 : Int32)) (A_pr : own_Av Z h0 pr .int 4 f) :
    MetFree l (⟨"com/example/geodesic/geodesic/graph/ShortestPaths", "walk", "([II)[I"⟩ : MethodName) (head1 (Jvm.Cond.code (⟨"com/example/geodesic/geodesic/graph/ShortestPaths", "walk", "([II)[I"⟩ : MethodName) prog_17_method_8_code 6 (some (.array .int)) :: ws) ({ frames := 0, cells := 1, slots := 4, locals := 0 } : Room)) (fun a U => a = #[(.ref pr), (.int x0)] ∧ Z.Warmed39 U.vm ∧ U.heap = h0) (fun _ _ _ _ _ => True) (fun _ U o U' => ∃ v L, o = .returned v ∧ own_q_own_wk4 Z pr x0 x1 x2 x3 k0 k1 k2 k3 f h0 n0 v U'.heap L ∧ FrameEnd U o U' L ({ frames := 0, cells := 1, slots := 4, locals := 0 } : Room).cells ({ frames := 0, cells := 1, slots := 4, locals := 0 } : Room).slots) := by
  refine MetFree.of_bodySF (plainFor_of_name own_pn_ShortestPaths) hisR ?_
  intro p e s m args below meth c T0 Bd hml0 hP hK
  obtain ⟨rfl, hZ, hh⟩ := hP
  have hx := Bd.exec
  have hby := Bd.bytes
  have hml : c.maxLocals = 6 := hml0
  have hown : s.vm.findClass "com/example/geodesic/geodesic/graph/ShortestPaths" = some m.cls := findClass_of_methodNamed Bd.named
  have hnm := (name_of_methodNamed Bd.named Bd.method).1
  have hret : meth.sig.returnType = (some (.array .int)) := Bd.returns
  have hlk : meth.locks = false := BodyLoose.notSynchronized Bd
  have X0 : Stand p l e ({ frames := 0, cells := 1, slots := 4, locals := 0 } : Room) s m #[(.ref pr), (.int x0)] below meth c T0 [] 0 0 := Stand.of_body Bd
  have e0 : T0.heap = h0 := by rw [← hh, Bd.state]; rfl
  have N0 := Fr.nil n0
  refine own_start (own_ef3 m pr x0) (Q := fun (v : Option Value) (h : Heap) (L : List Loc) => ∃ b : Addr, v = some (.ref b) ∧ Fr n0 L ∧ n0 ≤ b ∧ Keep h0 h [] ∧ own_Av Z h b .int 4 (own_upd (own_upd (own_upd (own_upd (fun _ => (.int (0 : Int32))) 3 (.int x0)) 2 (.int x1)) 1 (.int x2)) 0 (.int x3))) (k := 1) (j := 4) ?_
  show own_Go p e below T0 (mkF m 0 #[.val (.ref pr), .val (.int x0), .unset, .unset, .unset, .unset] []) _
  have K0 := Keep.refl h0 []
  refine own_s_iconst X0.here hx (1 : Int32) (hb hby own_d3_0) rfl ?_
  refine own_s_istoreN X0.here hx #[.val (.ref pr), .val (.int x0), .val (.int (1 : Int32)), .unset, .unset, .unset] (hb hby own_d3_1) rfl ?_
  refine own_s_aloadN X0.here hx (hb hby own_d3_2) rfl rfl ?_
  refine own_s_iloadN X0.here hx (hb hby own_d3_3) rfl ?_
  refine own_by (fun tq_ kq_ => own_ldI X0 hx hZ e0 A_pr (k := k0) (v := (.int x1)) ha0 hl0 hv0 (g := (mkF m 4 #[.val (.ref pr), .val (.int x0), .val (.int (1 : Int32)), .unset, .unset, .unset] [(.int x0), (.ref pr)])) rfl rfl (hb hby own_d3_4) tq_ kq_) ?_
  show own_Go p e below T0 (mkF m 5 #[.val (.ref pr), .val (.int x0), .val (.int (1 : Int32)), .unset, .unset, .unset] [(.int x1)]) _
  refine own_s_istoreN X0.here hx #[.val (.ref pr), .val (.int x0), .val (.int (1 : Int32)), .val (.int x1), .unset, .unset] (hb hby own_d3_5) rfl ?_
  refine own_s_iloadN X0.here hx (hb hby own_d3_6) rfl ?_
  refine own_s_iconst X0.here hx (-1 : Int32) (hb hby own_d3_7) rfl ?_
  refine own_s_icmpNo X0.here hx (hb hby own_d3_8) (Jvm.Free.XT.ii_eq_f hn1) ?_
  refine own_by (fun tq_ kq_ => XS.iinc X0.here hx rfl (hb hby own_d3_11) rfl (l' := #[.val (.ref pr), .val (.int x0), .val (.int ((1 : Int32) + (1 : Int32))), .val (.int x1), .unset, .unset]) rfl kq_) ?_
  show own_Go p e below T0 (mkF m 14 #[.val (.ref pr), .val (.int x0), .val (.int ((1 : Int32) + (1 : Int32))), .val (.int x1), .unset, .unset] []) _
  show own_Go p e below T0 (mkF m 14 #[.val (.ref pr), .val (.int x0), .val (.int (2 : Int32)), .val (.int x1), .unset, .unset] []) _
  refine own_s_aloadN X0.here hx (hb hby own_d3_14) rfl rfl ?_
  refine own_s_iloadN X0.here hx (hb hby own_d3_15) rfl ?_
  refine own_by (fun tq_ kq_ => own_ldI X0 hx hZ e0 A_pr (k := k1) (v := (.int x2)) ha1 hl1 hv1 (g := (mkF m 16 #[.val (.ref pr), .val (.int x0), .val (.int (2 : Int32)), .val (.int x1), .unset, .unset] [(.int x1), (.ref pr)])) rfl rfl (hb hby own_d3_16) tq_ kq_) ?_
  show own_Go p e below T0 (mkF m 17 #[.val (.ref pr), .val (.int x0), .val (.int (2 : Int32)), .val (.int x1), .unset, .unset] [(.int x2)]) _
  refine own_s_istoreN X0.here hx #[.val (.ref pr), .val (.int x0), .val (.int (2 : Int32)), .val (.int x2), .unset, .unset] (hb hby own_d3_17) rfl ?_
  show own_Go p e below T0 (mkF m 18 #[.val (.ref pr), .val (.int x0), .val (.int (2 : Int32)), .val (.int x2), .unset, .unset] []) _
  refine own_s_goto X0.here hx 6 (hb hby own_d3_18) (by decide) (by decide) ?_
  refine own_s_iloadN X0.here hx (hb hby own_d3_6) rfl ?_
  refine own_s_iconst X0.here hx (-1 : Int32) (hb hby own_d3_7) rfl ?_
  refine own_s_icmpNo X0.here hx (hb hby own_d3_8) (Jvm.Free.XT.ii_eq_f hn2) ?_
  refine own_by (fun tq_ kq_ => XS.iinc X0.here hx rfl (hb hby own_d3_11) rfl (l' := #[.val (.ref pr), .val (.int x0), .val (.int ((2 : Int32) + (1 : Int32))), .val (.int x2), .unset, .unset]) rfl kq_) ?_
  show own_Go p e below T0 (mkF m 14 #[.val (.ref pr), .val (.int x0), .val (.int ((2 : Int32) + (1 : Int32))), .val (.int x2), .unset, .unset] []) _
  show own_Go p e below T0 (mkF m 14 #[.val (.ref pr), .val (.int x0), .val (.int (3 : Int32)), .val (.int x2), .unset, .unset] []) _
  refine own_s_aloadN X0.here hx (hb hby own_d3_14) rfl rfl ?_
  refine own_s_iloadN X0.here hx (hb hby own_d3_15) rfl ?_
  refine own_by (fun tq_ kq_ => own_ldI X0 hx hZ e0 A_pr (k := k2) (v := (.int x3)) ha2 hl2 hv2 (g := (mkF m 16 #[.val (.ref pr), .val (.int x0), .val (.int (3 : Int32)), .val (.int x2), .unset, .unset] [(.int x2), (.ref pr)])) rfl rfl (hb hby own_d3_16) tq_ kq_) ?_
  show own_Go p e below T0 (mkF m 17 #[.val (.ref pr), .val (.int x0), .val (.int (3 : Int32)), .val (.int x2), .unset, .unset] [(.int x3)]) _
  refine own_s_istoreN X0.here hx #[.val (.ref pr), .val (.int x0), .val (.int (3 : Int32)), .val (.int x3), .unset, .unset] (hb hby own_d3_17) rfl ?_
  show own_Go p e below T0 (mkF m 18 #[.val (.ref pr), .val (.int x0), .val (.int (3 : Int32)), .val (.int x3), .unset, .unset] []) _
  refine own_s_goto X0.here hx 6 (hb hby own_d3_18) (by decide) (by decide) ?_
  refine own_s_iloadN X0.here hx (hb hby own_d3_6) rfl ?_
  refine own_s_iconst X0.here hx (-1 : Int32) (hb hby own_d3_7) rfl ?_
  refine own_s_icmpNo X0.here hx (hb hby own_d3_8) (Jvm.Free.XT.ii_eq_f hn3) ?_
  refine own_by (fun tq_ kq_ => XS.iinc X0.here hx rfl (hb hby own_d3_11) rfl (l' := #[.val (.ref pr), .val (.int x0), .val (.int ((3 : Int32) + (1 : Int32))), .val (.int x3), .unset, .unset]) rfl kq_) ?_
  show own_Go p e below T0 (mkF m 14 #[.val (.ref pr), .val (.int x0), .val (.int ((3 : Int32) + (1 : Int32))), .val (.int x3), .unset, .unset] []) _
  show own_Go p e below T0 (mkF m 14 #[.val (.ref pr), .val (.int x0), .val (.int (4 : Int32)), .val (.int x3), .unset, .unset] []) _
  refine own_s_aloadN X0.here hx (hb hby own_d3_14) rfl rfl ?_
  refine own_s_iloadN X0.here hx (hb hby own_d3_15) rfl ?_
  refine own_by (fun tq_ kq_ => own_ldI X0 hx hZ e0 A_pr (k := k3) (v := (.int (-1 : Int32))) ha3 hl3 hv3 (g := (mkF m 16 #[.val (.ref pr), .val (.int x0), .val (.int (4 : Int32)), .val (.int x3), .unset, .unset] [(.int x3), (.ref pr)])) rfl rfl (hb hby own_d3_16) tq_ kq_) ?_
  show own_Go p e below T0 (mkF m 17 #[.val (.ref pr), .val (.int x0), .val (.int (4 : Int32)), .val (.int x3), .unset, .unset] [(.int (-1 : Int32))]) _
  refine own_s_istoreN X0.here hx #[.val (.ref pr), .val (.int x0), .val (.int (4 : Int32)), .val (.int (-1 : Int32)), .unset, .unset] (hb hby own_d3_17) rfl ?_
  show own_Go p e below T0 (mkF m 18 #[.val (.ref pr), .val (.int x0), .val (.int (4 : Int32)), .val (.int (-1 : Int32)), .unset, .unset] []) _
  refine own_s_goto X0.here hx 6 (hb hby own_d3_18) (by decide) (by decide) ?_
  refine own_s_iloadN X0.here hx (hb hby own_d3_6) rfl ?_
  refine own_s_iconst X0.here hx (-1 : Int32) (hb hby own_d3_7) rfl ?_
  show own_Go p e below T0 (mkF m 8 #[.val (.ref pr), .val (.int x0), .val (.int (4 : Int32)), .val (.int (-1 : Int32)), .unset, .unset] [(.int (-1 : Int32)), (.int (-1 : Int32))]) _
  refine own_s_icmpYes X0.here hx 21 (hb hby own_d3_8) (Jvm.Free.XT.ii_eq_t ((by decide))) (by decide) (by decide) ?_
  refine own_s_iloadN X0.here hx (hb hby own_d3_21) rfl ?_
  obtain ⟨T23, h23, k23, X23, e23, E23, A23, st23⟩ := newP X0 hx hZ (hw _ (List.mem_of_getElem? (i := 0) rfl)) e0 (g := (mkF m 22 #[.val (.ref pr), .val (.int x0), .val (.int (4 : Int32)), .val (.int (-1 : Int32)), .unset, .unset] [(.int (4 : Int32))])) rfl (hb hby own_d3_22) rfl (by decide) (cap := 4) (by decide) (by decide) (by decide) (by decide)
  obtain ⟨b23, g23⟩ : ∃ z, z = h0.size := ⟨_, rfl⟩
  rw [← g23] at A23 st23
  have ge_b23 : n0 ≤ b23 := Nat.le_trans Z0 (Nat.le_of_eq g23.symm)
  have sz_b23 : h0.size ≤ b23 := Nat.le_trans K0.1 (Nat.le_of_eq g23.symm)
  have ne_pr_b23 : pr ≠ b23 := Nat.ne_of_lt (Nat.lt_of_lt_of_le A_pr.lt (Nat.le_of_eq g23.symm))
  have f24 := A_pr.ext E23
  have SZ23 : n0 ≤ h23.size := Nat.le_trans Z0 E23.1
  have K23 := K0.ext E23
  have f25 : own_Av Z h23 b23 .int 4 (fun _ => (.int (0 : Int32))) := own_Av.ofnew A23 (by decide) rfl
  refine own_by st23 ?_
  show own_Go p e below T23 (mkF m 24 #[.val (.ref pr), .val (.int x0), .val (.int (4 : Int32)), .val (.int (-1 : Int32)), .unset, .unset] [(.ref b23)]) _
  refine own_s_astoreN X23.here hx #[.val (.ref pr), .val (.int x0), .val (.int (4 : Int32)), .val (.ref b23), .unset, .unset] (hb hby own_d3_24) rfl rfl ?_
  refine own_s_iloadN X23.here hx (hb hby own_d3_25) rfl ?_
  refine own_s_istore X23.here hx #[.val (.ref pr), .val (.int x0), .val (.int (4 : Int32)), .val (.ref b23), .val (.int x0), .unset] (hb hby own_d3_26) rfl ?_
  refine own_s_iloadN X23.here hx (hb hby own_d3_28) rfl ?_
  refine own_s_iconst X23.here hx (1 : Int32) (hb hby own_d3_29) rfl ?_
  refine own_s_isub X23.here hx (hb hby own_d3_30) ?_
  show own_Go p e below T23 (mkF m 31 #[.val (.ref pr), .val (.int x0), .val (.int (4 : Int32)), .val (.ref b23), .val (.int x0), .unset] [(.int (3 : Int32))]) _
  refine own_s_istore X23.here hx #[.val (.ref pr), .val (.int x0), .val (.int (4 : Int32)), .val (.ref b23), .val (.int x0), .val (.int (3 : Int32))] (hb hby own_d3_31) rfl ?_
  refine own_s_iload X23.here hx (hb hby own_d3_33) rfl ?_
  refine own_s_ifNo X23.here hx (hb hby own_d3_35) (Jvm.Free.XT.i0_lt_f ((by decide))) ?_
  refine own_s_aloadN X23.here hx (hb hby own_d3_38) rfl rfl ?_
  refine own_s_iload X23.here hx (hb hby own_d3_39) rfl ?_
  refine own_s_iload X23.here hx (hb hby own_d3_41) rfl ?_
  obtain ⟨T26, h26, X26, e26, W26, fa26, st26⟩ := own_stI X23 hx hZ e23 f25 (k := 3) (by decide) (by decide) (g := (mkF m 43 #[.val (.ref pr), .val (.int x0), .val (.int (4 : Int32)), .val (.ref b23), .val (.int x0), .val (.int (3 : Int32))] [(.int x0), (.int (3 : Int32)), (.ref b23)])) rfl rfl (hb hby own_d3_43)
  have f27 := f24.other W26 ne_pr_b23
  have N26 := Fr.snoc X26 N0 ge_b23
  have SZ26 : n0 ≤ h26.size := by rw [W26.size]; exact SZ23
  have K26 := K23.wr W26 (Or.inr sz_b23)
  refine own_by st26 ?_
  show own_Go p e below T26 (mkF m 44 #[.val (.ref pr), .val (.int x0), .val (.int (4 : Int32)), .val (.ref b23), .val (.int x0), .val (.int (3 : Int32))] []) _
  refine own_s_aloadN X26.here hx (hb hby own_d3_44) rfl rfl ?_
  refine own_s_iload X26.here hx (hb hby own_d3_45) rfl ?_
  refine own_by (fun tq_ kq_ => own_ldI X26 hx hZ e26 f27 (k := k0) (v := (.int x1)) ha0 hl0 hv0 (g := (mkF m 47 #[.val (.ref pr), .val (.int x0), .val (.int (4 : Int32)), .val (.ref b23), .val (.int x0), .val (.int (3 : Int32))] [(.int x0), (.ref pr)])) rfl rfl (hb hby own_d3_47) tq_ kq_) ?_
  show own_Go p e below T26 (mkF m 48 #[.val (.ref pr), .val (.int x0), .val (.int (4 : Int32)), .val (.ref b23), .val (.int x0), .val (.int (3 : Int32))] [(.int x1)]) _
  refine own_s_istore X26.here hx #[.val (.ref pr), .val (.int x0), .val (.int (4 : Int32)), .val (.ref b23), .val (.int x1), .val (.int (3 : Int32))] (hb hby own_d3_48) rfl ?_
  refine own_by (fun tq_ kq_ => XS.iinc X26.here hx rfl (hb hby own_d3_50) rfl (l' := #[.val (.ref pr), .val (.int x0), .val (.int (4 : Int32)), .val (.ref b23), .val (.int x1), .val (.int ((3 : Int32) + (-1 : Int32)))]) rfl kq_) ?_
  show own_Go p e below T26 (mkF m 53 #[.val (.ref pr), .val (.int x0), .val (.int (4 : Int32)), .val (.ref b23), .val (.int x1), .val (.int ((3 : Int32) + (-1 : Int32)))] []) _
  show own_Go p e below T26 (mkF m 53 #[.val (.ref pr), .val (.int x0), .val (.int (4 : Int32)), .val (.ref b23), .val (.int x1), .val (.int (2 : Int32))] []) _
  refine own_s_goto X26.here hx 33 (hb hby own_d3_53) (by decide) (by decide) ?_
  refine own_s_iload X26.here hx (hb hby own_d3_33) rfl ?_
  refine own_s_ifNo X26.here hx (hb hby own_d3_35) (Jvm.Free.XT.i0_lt_f ((by decide))) ?_
  refine own_s_aloadN X26.here hx (hb hby own_d3_38) rfl rfl ?_
  refine own_s_iload X26.here hx (hb hby own_d3_39) rfl ?_
  refine own_s_iload X26.here hx (hb hby own_d3_41) rfl ?_
  obtain ⟨T28, h28, X28, e28, W28, fa28, st28⟩ := own_stI X26 hx hZ e26 fa26 (k := 2) (by decide) (by decide) (g := (mkF m 43 #[.val (.ref pr), .val (.int x0), .val (.int (4 : Int32)), .val (.ref b23), .val (.int x1), .val (.int (2 : Int32))] [(.int x1), (.int (2 : Int32)), (.ref b23)])) rfl rfl (hb hby own_d3_43)
  have f29 := f27.other W28 ne_pr_b23
  have N28 := Fr.snoc X28 N26 ge_b23
  have SZ28 : n0 ≤ h28.size := by rw [W28.size]; exact SZ26
  have K28 := K26.wr W28 (Or.inr sz_b23)
  refine own_by st28 ?_
  show own_Go p e below T28 (mkF m 44 #[.val (.ref pr), .val (.int x0), .val (.int (4 : Int32)), .val (.ref b23), .val (.int x1), .val (.int (2 : Int32))] []) _
  refine own_s_aloadN X28.here hx (hb hby own_d3_44) rfl rfl ?_
  refine own_s_iload X28.here hx (hb hby own_d3_45) rfl ?_
  refine own_by (fun tq_ kq_ => own_ldI X28 hx hZ e28 f29 (k := k1) (v := (.int x2)) ha1 hl1 hv1 (g := (mkF m 47 #[.val (.ref pr), .val (.int x0), .val (.int (4 : Int32)), .val (.ref b23), .val (.int x1), .val (.int (2 : Int32))] [(.int x1), (.ref pr)])) rfl rfl (hb hby own_d3_47) tq_ kq_) ?_
  show own_Go p e below T28 (mkF m 48 #[.val (.ref pr), .val (.int x0), .val (.int (4 : Int32)), .val (.ref b23), .val (.int x1), .val (.int (2 : Int32))] [(.int x2)]) _
  refine own_s_istore X28.here hx #[.val (.ref pr), .val (.int x0), .val (.int (4 : Int32)), .val (.ref b23), .val (.int x2), .val (.int (2 : Int32))] (hb hby own_d3_48) rfl ?_
  refine own_by (fun tq_ kq_ => XS.iinc X28.here hx rfl (hb hby own_d3_50) rfl (l' := #[.val (.ref pr), .val (.int x0), .val (.int (4 : Int32)), .val (.ref b23), .val (.int x2), .val (.int ((2 : Int32) + (-1 : Int32)))]) rfl kq_) ?_
  show own_Go p e below T28 (mkF m 53 #[.val (.ref pr), .val (.int x0), .val (.int (4 : Int32)), .val (.ref b23), .val (.int x2), .val (.int ((2 : Int32) + (-1 : Int32)))] []) _
  show own_Go p e below T28 (mkF m 53 #[.val (.ref pr), .val (.int x0), .val (.int (4 : Int32)), .val (.ref b23), .val (.int x2), .val (.int (1 : Int32))] []) _
  refine own_s_goto X28.here hx 33 (hb hby own_d3_53) (by decide) (by decide) ?_
  refine own_s_iload X28.here hx (hb hby own_d3_33) rfl ?_
  refine own_s_ifNo X28.here hx (hb hby own_d3_35) (Jvm.Free.XT.i0_lt_f ((by decide))) ?_
  refine own_s_aloadN X28.here hx (hb hby own_d3_38) rfl rfl ?_
  refine own_s_iload X28.here hx (hb hby own_d3_39) rfl ?_
  refine own_s_iload X28.here hx (hb hby own_d3_41) rfl ?_
  obtain ⟨T30, h30, X30, e30, W30, fa30, st30⟩ := own_stI X28 hx hZ e28 fa28 (k := 1) (by decide) (by decide) (g := (mkF m 43 #[.val (.ref pr), .val (.int x0), .val (.int (4 : Int32)), .val (.ref b23), .val (.int x2), .val (.int (1 : Int32))] [(.int x2), (.int (1 : Int32)), (.ref b23)])) rfl rfl (hb hby own_d3_43)
  have f31 := f29.other W30 ne_pr_b23
  have N30 := Fr.snoc X30 N28 ge_b23
  have SZ30 : n0 ≤ h30.size := by rw [W30.size]; exact SZ28
  have K30 := K28.wr W30 (Or.inr sz_b23)
  refine own_by st30 ?_
  show own_Go p e below T30 (mkF m 44 #[.val (.ref pr), .val (.int x0), .val (.int (4 : Int32)), .val (.ref b23), .val (.int x2), .val (.int (1 : Int32))] []) _
  refine own_s_aloadN X30.here hx (hb hby own_d3_44) rfl rfl ?_
  refine own_s_iload X30.here hx (hb hby own_d3_45) rfl ?_
  refine own_by (fun tq_ kq_ => own_ldI X30 hx hZ e30 f31 (k := k2) (v := (.int x3)) ha2 hl2 hv2 (g := (mkF m 47 #[.val (.ref pr), .val (.int x0), .val (.int (4 : Int32)), .val (.ref b23), .val (.int x2), .val (.int (1 : Int32))] [(.int x2), (.ref pr)])) rfl rfl (hb hby own_d3_47) tq_ kq_) ?_
  show own_Go p e below T30 (mkF m 48 #[.val (.ref pr), .val (.int x0), .val (.int (4 : Int32)), .val (.ref b23), .val (.int x2), .val (.int (1 : Int32))] [(.int x3)]) _
  refine own_s_istore X30.here hx #[.val (.ref pr), .val (.int x0), .val (.int (4 : Int32)), .val (.ref b23), .val (.int x3), .val (.int (1 : Int32))] (hb hby own_d3_48) rfl ?_
  refine own_by (fun tq_ kq_ => XS.iinc X30.here hx rfl (hb hby own_d3_50) rfl (l' := #[.val (.ref pr), .val (.int x0), .val (.int (4 : Int32)), .val (.ref b23), .val (.int x3), .val (.int ((1 : Int32) + (-1 : Int32)))]) rfl kq_) ?_
  show own_Go p e below T30 (mkF m 53 #[.val (.ref pr), .val (.int x0), .val (.int (4 : Int32)), .val (.ref b23), .val (.int x3), .val (.int ((1 : Int32) + (-1 : Int32)))] []) _
  show own_Go p e below T30 (mkF m 53 #[.val (.ref pr), .val (.int x0), .val (.int (4 : Int32)), .val (.ref b23), .val (.int x3), .val (.int (0 : Int32))] []) _
  refine own_s_goto X30.here hx 33 (hb hby own_d3_53) (by decide) (by decide) ?_
  refine own_s_iload X30.here hx (hb hby own_d3_33) rfl ?_
  refine own_s_ifNo X30.here hx (hb hby own_d3_35) (Jvm.Free.XT.i0_lt_f ((by decide))) ?_
  refine own_s_aloadN X30.here hx (hb hby own_d3_38) rfl rfl ?_
  refine own_s_iload X30.here hx (hb hby own_d3_39) rfl ?_
  refine own_s_iload X30.here hx (hb hby own_d3_41) rfl ?_
  obtain ⟨T32, h32, X32, e32, W32, fa32, st32⟩ := own_stI X30 hx hZ e30 fa30 (k := 0) (by decide) (by decide) (g := (mkF m 43 #[.val (.ref pr), .val (.int x0), .val (.int (4 : Int32)), .val (.ref b23), .val (.int x3), .val (.int (0 : Int32))] [(.int x3), (.int (0 : Int32)), (.ref b23)])) rfl rfl (hb hby own_d3_43)
  have f33 := f31.other W32 ne_pr_b23
  have N32 := Fr.snoc X32 N30 ge_b23
  have SZ32 : n0 ≤ h32.size := by rw [W32.size]; exact SZ30
  have K32 := K30.wr W32 (Or.inr sz_b23)
  refine own_by st32 ?_
  show own_Go p e below T32 (mkF m 44 #[.val (.ref pr), .val (.int x0), .val (.int (4 : Int32)), .val (.ref b23), .val (.int x3), .val (.int (0 : Int32))] []) _
  refine own_s_aloadN X32.here hx (hb hby own_d3_44) rfl rfl ?_
  refine own_s_iload X32.here hx (hb hby own_d3_45) rfl ?_
  refine own_by (fun tq_ kq_ => own_ldI X32 hx hZ e32 f33 (k := k3) (v := (.int (-1 : Int32))) ha3 hl3 hv3 (g := (mkF m 47 #[.val (.ref pr), .val (.int x0), .val (.int (4 : Int32)), .val (.ref b23), .val (.int x3), .val (.int (0 : Int32))] [(.int x3), (.ref pr)])) rfl rfl (hb hby own_d3_47) tq_ kq_) ?_
  show own_Go p e below T32 (mkF m 48 #[.val (.ref pr), .val (.int x0), .val (.int (4 : Int32)), .val (.ref b23), .val (.int x3), .val (.int (0 : Int32))] [(.int (-1 : Int32))]) _
  refine own_s_istore X32.here hx #[.val (.ref pr), .val (.int x0), .val (.int (4 : Int32)), .val (.ref b23), .val (.int (-1 : Int32)), .val (.int (0 : Int32))] (hb hby own_d3_48) rfl ?_
  refine own_by (fun tq_ kq_ => XS.iinc X32.here hx rfl (hb hby own_d3_50) rfl (l' := #[.val (.ref pr), .val (.int x0), .val (.int (4 : Int32)), .val (.ref b23), .val (.int (-1 : Int32)), .val (.int ((0 : Int32) + (-1 : Int32)))]) rfl kq_) ?_
  show own_Go p e below T32 (mkF m 53 #[.val (.ref pr), .val (.int x0), .val (.int (4 : Int32)), .val (.ref b23), .val (.int (-1 : Int32)), .val (.int ((0 : Int32) + (-1 : Int32)))] []) _
  show own_Go p e below T32 (mkF m 53 #[.val (.ref pr), .val (.int x0), .val (.int (4 : Int32)), .val (.ref b23), .val (.int (-1 : Int32)), .val (.int (-1 : Int32))] []) _
  refine own_s_goto X32.here hx 33 (hb hby own_d3_53) (by decide) (by decide) ?_
  refine own_s_iload X32.here hx (hb hby own_d3_33) rfl ?_
  show own_Go p e below T32 (mkF m 35 #[.val (.ref pr), .val (.int x0), .val (.int (4 : Int32)), .val (.ref b23), .val (.int (-1 : Int32)), .val (.int (-1 : Int32))] [(.int (-1 : Int32))]) _
  refine own_s_ifYes X32.here hx 56 (hb hby own_d3_35) (Jvm.Free.XT.i0_lt_t ((by decide))) (by decide) (by decide) ?_
  refine own_s_aloadN X32.here hx (hb hby own_d3_56) rfl rfl ?_
  refine own_retA X32 hx hret hlk (hb hby own_d3_57) rfl rfl rfl (by decide) (by decide) ?_
  rw [e32]
  exact ⟨b23, rfl, N32, ge_b23, K32, fa32⟩
def own_pf (s0 s1 s2 s3 : Nat) (v0 v1 v2 v3 : Int32) (i : Nat) : Int32 := if i = s3 then v3 else if i = s2 then v2 else if i = s1 then v1 else if i = s0 then v0 else 0
theorem own_pf_eq (s0 s1 s2 s3 : Nat) (v0 v1 v2 v3 : Int32) (i : Nat) : (own_upd (own_upd (own_upd (own_upd (fun _ => (.int (0 : Int32))) s0 (.int v0)) s1 (.int v1)) s2 (.int v2)) s3 (.int v3)) i = .int (own_pf s0 s1 s2 s3 v0 v1 v2 v3 i) := by
  unfold own_pf
  by_cases q3 : i = s3
  · rw [own_upd_hit q3, if_pos q3]
  · rw [own_upd_miss q3, if_neg q3]
    by_cases q2 : i = s2
    · rw [own_upd_hit q2, if_pos q2]
    · rw [own_upd_miss q2, if_neg q2]
      by_cases q1 : i = s1
      · rw [own_upd_hit q1, if_pos q1]
      · rw [own_upd_miss q1, if_neg q1]
        by_cases q0 : i = s0
        · rw [own_upd_hit q0, if_pos q0]
        · rw [own_upd_miss q0, if_neg q0]
theorem own_Sf : ∀ (r k : Fin 4), (¬ (own_f1 (0 : Int32) (Int32.ofNat r.val) (Int32.ofNat k.val)) < 0 ∧ (own_f1 (0 : Int32) (Int32.ofNat r.val) (Int32.ofNat k.val)).toNatClampNeg < 4 ∧ ¬ (own_f1 (0 : Int32) (Int32.ofNat r.val) (Int32.ofNat k.val)) = (-1 : Int32)) ∧ (¬ (own_f1 (1 : Int32) (Int32.ofNat r.val) (Int32.ofNat k.val)) < 0 ∧ (own_f1 (1 : Int32) (Int32.ofNat r.val) (Int32.ofNat k.val)).toNatClampNeg < 4 ∧ ¬ (own_f1 (1 : Int32) (Int32.ofNat r.val) (Int32.ofNat k.val)) = (-1 : Int32)) ∧ (¬ (own_f1 (2 : Int32) (Int32.ofNat r.val) (Int32.ofNat k.val)) < 0 ∧ (own_f1 (2 : Int32) (Int32.ofNat r.val) (Int32.ofNat k.val)).toNatClampNeg < 4 ∧ ¬ (own_f1 (2 : Int32) (Int32.ofNat r.val) (Int32.ofNat k.val)) = (-1 : Int32)) ∧ (¬ (own_f1 (3 : Int32) (Int32.ofNat r.val) (Int32.ofNat k.val)) < 0 ∧ (own_f1 (3 : Int32) (Int32.ofNat r.val) (Int32.ofNat k.val)).toNatClampNeg < 4 ∧ ¬ (own_f1 (3 : Int32) (Int32.ofNat r.val) (Int32.ofNat k.val)) = (-1 : Int32)) ∧ (own_f1 (0 : Int32) (Int32.ofNat r.val) (Int32.ofNat k.val)).toNatClampNeg ≠ (own_f1 (1 : Int32) (Int32.ofNat r.val) (Int32.ofNat k.val)).toNatClampNeg ∧ (own_f1 (0 : Int32) (Int32.ofNat r.val) (Int32.ofNat k.val)).toNatClampNeg ≠ (own_f1 (2 : Int32) (Int32.ofNat r.val) (Int32.ofNat k.val)).toNatClampNeg ∧ (own_f1 (0 : Int32) (Int32.ofNat r.val) (Int32.ofNat k.val)).toNatClampNeg ≠ (own_f1 (3 : Int32) (Int32.ofNat r.val) (Int32.ofNat k.val)).toNatClampNeg ∧ (own_f1 (1 : Int32) (Int32.ofNat r.val) (Int32.ofNat k.val)).toNatClampNeg ≠ (own_f1 (2 : Int32) (Int32.ofNat r.val) (Int32.ofNat k.val)).toNatClampNeg ∧ (own_f1 (1 : Int32) (Int32.ofNat r.val) (Int32.ofNat k.val)).toNatClampNeg ≠ (own_f1 (3 : Int32) (Int32.ofNat r.val) (Int32.ofNat k.val)).toNatClampNeg ∧ (own_f1 (2 : Int32) (Int32.ofNat r.val) (Int32.ofNat k.val)).toNatClampNeg ≠ (own_f1 (3 : Int32) (Int32.ofNat r.val) (Int32.ofNat k.val)).toNatClampNeg := by decide +kernel
theorem own_of4 {x : Int32} (h0 : 0 ≤ x.toInt) (h1 : x.toInt < 4) : ∃ j : Fin 4, x = Int32.ofNat j.val := by
  refine ⟨⟨x.toInt.toNat, by omega⟩, Int32.toInt_inj.mp ?_⟩
  rw [Int32.toInt_ofNat_small (by show x.toInt.toNat < _; omega)]
  show x.toInt = ((x.toInt.toNat : Nat) : Int)
  omega
theorem own_Sr (r_ k_ : Int32) (hr : 0 ≤ r_.toInt ∧ r_.toInt < 4) (hk : 0 ≤ k_.toInt ∧ k_.toInt < 4) : (¬ (own_f1 (0 : Int32) r_ k_) < 0 ∧ (own_f1 (0 : Int32) r_ k_).toNatClampNeg < 4 ∧ ¬ (own_f1 (0 : Int32) r_ k_) = (-1 : Int32)) ∧ (¬ (own_f1 (1 : Int32) r_ k_) < 0 ∧ (own_f1 (1 : Int32) r_ k_).toNatClampNeg < 4 ∧ ¬ (own_f1 (1 : Int32) r_ k_) = (-1 : Int32)) ∧ (¬ (own_f1 (2 : Int32) r_ k_) < 0 ∧ (own_f1 (2 : Int32) r_ k_).toNatClampNeg < 4 ∧ ¬ (own_f1 (2 : Int32) r_ k_) = (-1 : Int32)) ∧ (¬ (own_f1 (3 : Int32) r_ k_) < 0 ∧ (own_f1 (3 : Int32) r_ k_).toNatClampNeg < 4 ∧ ¬ (own_f1 (3 : Int32) r_ k_) = (-1 : Int32)) ∧ (own_f1 (0 : Int32) r_ k_).toNatClampNeg ≠ (own_f1 (1 : Int32) r_ k_).toNatClampNeg ∧ (own_f1 (0 : Int32) r_ k_).toNatClampNeg ≠ (own_f1 (2 : Int32) r_ k_).toNatClampNeg ∧ (own_f1 (0 : Int32) r_ k_).toNatClampNeg ≠ (own_f1 (3 : Int32) r_ k_).toNatClampNeg ∧ (own_f1 (1 : Int32) r_ k_).toNatClampNeg ≠ (own_f1 (2 : Int32) r_ k_).toNatClampNeg ∧ (own_f1 (1 : Int32) r_ k_).toNatClampNeg ≠ (own_f1 (3 : Int32) r_ k_).toNatClampNeg ∧ (own_f1 (2 : Int32) r_ k_).toNatClampNeg ≠ (own_f1 (3 : Int32) r_ k_).toNatClampNeg := by
  obtain ⟨i, rfl⟩ := own_of4 hr.1 hr.2
  obtain ⟨j, rfl⟩ := own_of4 hk.1 hk.2
  exact own_Sf i j
theorem own_m3 (x : Int32) : 0 ≤ (x &&& (3 : Int32)).toInt ∧ (x &&& (3 : Int32)).toInt < 4 := by
  have e1 : (x &&& (3 : Int32)).toInt = x.toInt % 2 ^ 2 := Jvm.Kit.i32_mask x _ (k := 2) (by decide) (by decide)
  omega
theorem own_4f : ∀ j : Fin 4, (((Int32.ofNat j.val) % (3 : Int32)) - (1 : Int32) = -1 ∨ ((Int32.ofNat j.val) % (3 : Int32)) - (1 : Int32) = 0 ∨ ((Int32.ofNat j.val) % (3 : Int32)) - (1 : Int32) = 1) ∧ ((Int32.ofNat j.val) - (1 : Int32) = -1 ∨ (Int32.ofNat j.val) - (1 : Int32) = 0 ∨ (Int32.ofNat j.val) - (1 : Int32) = 1 ∨ (Int32.ofNat j.val) - (1 : Int32) = 2) ∧ ((Int32.ofNat j.val) = 0 ∨ (Int32.ofNat j.val) = 1 ∨ (Int32.ofNat j.val) = 2 ∨ (Int32.ofNat j.val) = 3) := by decide +kernel
theorem own_L2 (x : Int32) : ((x &&& (3 : Int32)) % (3 : Int32)) - (1 : Int32) = -1 ∨ ((x &&& (3 : Int32)) % (3 : Int32)) - (1 : Int32) = 0 ∨ ((x &&& (3 : Int32)) % (3 : Int32)) - (1 : Int32) = 1 := by
  obtain ⟨j, e⟩ := own_of4 (own_m3 x).1 (own_m3 x).2
  rw [e]; exact (own_4f j).1
theorem own_L3 (x : Int32) : (x &&& (3 : Int32)) - (1 : Int32) = -1 ∨ (x &&& (3 : Int32)) - (1 : Int32) = 0 ∨ (x &&& (3 : Int32)) - (1 : Int32) = 1 ∨ (x &&& (3 : Int32)) - (1 : Int32) = 2 := by
  obtain ⟨j, e⟩ := own_of4 (own_m3 x).1 (own_m3 x).2
  rw [e]; exact (own_4f j).2.1
theorem own_q3 (x : Int32) : (x &&& (3 : Int32)) = 0 ∨ (x &&& (3 : Int32)) = 1 ∨ (x &&& (3 : Int32)) = 2 ∨ (x &&& (3 : Int32)) = 3 := by
  obtain ⟨j, e⟩ := own_of4 (own_m3 x).1 (own_m3 x).2
  rw [e]; exact (own_4f j).2.2
theorem own_img (u r k : Int32) (h : ¬ u < 0) : own_f2 u r k = own_f1 u r k := by unfold own_f2; rw [if_neg h]
theorem own_img0 (u r k : Int32) (h : u < 0) : own_f2 u r k = (-1 : Int32) := by unfold own_f2; rw [if_pos h]
theorem own_pfh {s0 s1 s2 s3 : Nat} {v0 v1 v2 v3 : Int32} (h01 : s0 ≠ s1) (h02 : s0 ≠ s2) (h03 : s0 ≠ s3) (h12 : s1 ≠ s2) (h13 : s1 ≠ s3) (h23 : s2 ≠ s3) : own_pf s0 s1 s2 s3 v0 v1 v2 v3 s0 = v0 ∧ own_pf s0 s1 s2 s3 v0 v1 v2 v3 s1 = v1 ∧ own_pf s0 s1 s2 s3 v0 v1 v2 v3 s2 = v2 ∧ own_pf s0 s1 s2 s3 v0 v1 v2 v3 s3 = v3 := by
  unfold own_pf
  refine ⟨?_, ?_, ?_, ?_⟩
  · rw [if_neg h03, if_neg h02, if_neg h01, if_pos rfl]
  · rw [if_neg h13, if_neg h12, if_pos rfl]
  · rw [if_neg h23, if_pos rfl]
  · rw [if_pos rfl]
set_option maxRecDepth 65536 in
set_option maxHeartbeats 40000000 in
theorem own_t1 {p : Program} {l : Launch} {e : Env} {s : State} {m : MethodId} {args : Array Value} {below : List Frame} {meth : Method} {c : Code} {Z : State} {a0 : Array Value} {n0 : Nat} (hx : p.tables.exec = Jvm.exec) (hZ : Z.Warmed39 s.vm) (hw : ∀ d ∈ tables_1, d.before a0 Z = true) (hby : c.code = code) (hml : c.maxLocals = 15) (hown : s.vm.findClass "com/example/geodesic/geodesic/graph/ShortestPathsWalkPinLaw" = some m.cls) (hnm : meth.name = "law") (hret : meth.sig.returnType = (some .boolean)) (hlk : meth.locks = false) (sh0 pm0 nd0 r_ k_ q_ a_ b_ c_ v0 v1 v2 v3 : Int32) (lp pr bf rs : Addr) (s0 s1 s2 s3 : Nat) {T0 : State} {locs : List Loc} {h0 : Heap} (X0 : Stand p l e room_1 s m args below meth c T0 locs 4 13) (e0 : T0.heap = h0) (N0 : Fr n0 locs) (Z0 : n0 ≤ h0.size) (A_pr : own_Av Z h0 pr .int 4 (fun i => .int ((own_pf s0 s1 s2 s3 v0 v1 v2 v3) i))) (A_bf : own_Av Z h0 bf .int 4 (own_upd (own_upd (own_upd (own_upd (fun _ => (.int (0 : Int32))) 0 (.int ((own_pf s0 s1 s2 s3 v0 v1 v2 v3) 0))) 1 (.int ((own_pf s0 s1 s2 s3 v0 v1 v2 v3) 1))) 2 (.int ((own_pf s0 s1 s2 s3 v0 v1 v2 v3) 2))) 3 (.int ((own_pf s0 s1 s2 s3 v0 v1 v2 v3) 3)))) (A_rs : own_Av Z h0 rs .int 1 (own_upd (fun _ => (.int (0 : Int32))) 0 (.int (own_f1 q_ r_ k_)))) :
    own_Go p e below T0 (mkF m 273 #[.val (.int sh0), .val (.int pm0), .val (.int nd0), .val (.ref lp), .val (.int r_), .val (.int k_), .val (.ref pr), .val (.ref bf), .val (.int q_), .val (.int a_), .val (.int b_), .val (.int c_), .val (.int (1 : Int32)), .unset, .unset] [(.ref rs)]) (own_Fin s (fun (v : Option Value) (h : Heap) (L : List Loc) => v = some (.int 1) ∧ Fr n0 L) 16 128) := by
  show own_Go p e below T0 (mkF m 273 #[.val (.int sh0), .val (.int pm0), .val (.int nd0), .val (.ref lp), .val (.int r_), .val (.int k_), .val (.ref pr), .val (.ref bf), .val (.int q_), .val (.int a_), .val (.int b_), .val (.int c_), .val (.int (1 : Int32)), .unset, .unset] [(.ref rs)]) _
  refine own_s_astore X0.here hx #[.val (.int sh0), .val (.int pm0), .val (.int nd0), .val (.ref lp), .val (.int r_), .val (.int k_), .val (.ref pr), .val (.ref bf), .val (.int q_), .val (.int a_), .val (.int b_), .val (.int c_), .val (.int (1 : Int32)), .val (.ref rs), .unset] (hb hby at_273) rfl rfl ?_
  refine own_s_aload X0.here hx (hb hby at_275) rfl rfl ?_
  refine own_by (fun tq_ kq_ => own_len X0 hx hZ e0 A_rs (z := (1 : Int32)) rfl (g := (mkF m 277 #[.val (.int sh0), .val (.int pm0), .val (.int nd0), .val (.ref lp), .val (.int r_), .val (.int k_), .val (.ref pr), .val (.ref bf), .val (.int q_), .val (.int a_), .val (.int b_), .val (.int c_), .val (.int (1 : Int32)), .val (.ref rs), .unset] [(.ref rs)])) rfl rfl (hb hby at_277) tq_ kq_) ?_
  show own_Go p e below T0 (mkF m 278 #[.val (.int sh0), .val (.int pm0), .val (.int nd0), .val (.ref lp), .val (.int r_), .val (.int k_), .val (.ref pr), .val (.ref bf), .val (.int q_), .val (.int a_), .val (.int b_), .val (.int c_), .val (.int (1 : Int32)), .val (.ref rs), .unset] [(.int (1 : Int32))]) _
  refine own_s_iload X0.here hx (hb hby at_278) rfl ?_
  refine own_s_icmpNo X0.here hx (hb hby at_280) (Jvm.Free.XT.ii_ne_f ((by decide))) ?_
  refine own_s_iconst X0.here hx (1 : Int32) (hb hby at_283) rfl ?_
  show own_Go p e below T0 (mkF m 284 #[.val (.int sh0), .val (.int pm0), .val (.int nd0), .val (.ref lp), .val (.int r_), .val (.int k_), .val (.ref pr), .val (.ref bf), .val (.int q_), .val (.int a_), .val (.int b_), .val (.int c_), .val (.int (1 : Int32)), .val (.ref rs), .unset] [(.int (1 : Int32))]) _
  refine own_s_goto X0.here hx 288 (hb hby at_284) (by decide) (by decide) ?_
  refine own_s_istore X0.here hx #[.val (.int sh0), .val (.int pm0), .val (.int nd0), .val (.ref lp), .val (.int r_), .val (.int k_), .val (.ref pr), .val (.ref bf), .val (.int q_), .val (.int a_), .val (.int b_), .val (.int c_), .val (.int (1 : Int32)), .val (.ref rs), .val (.int (1 : Int32))] (hb hby at_288) rfl ?_
  refine own_s_iload X0.here hx (hb hby at_290) rfl ?_
  refine own_s_ifNo X0.here hx (hb hby at_292) (Jvm.Free.XT.i0_eq_f ((by decide))) ?_
  refine own_s_aload X0.here hx (hb hby at_295) rfl rfl ?_
  refine own_s_iload X0.here hx (hb hby at_297) rfl ?_
  refine own_s_iconst X0.here hx (1 : Int32) (hb hby at_299) rfl ?_
  refine own_s_isub X0.here hx (hb hby at_300) ?_
  show own_Go p e below T0 (mkF m 301 #[.val (.int sh0), .val (.int pm0), .val (.int nd0), .val (.ref lp), .val (.int r_), .val (.int k_), .val (.ref pr), .val (.ref bf), .val (.int q_), .val (.int a_), .val (.int b_), .val (.int c_), .val (.int (1 : Int32)), .val (.ref rs), .val (.int (1 : Int32))] [(.int (0 : Int32)), (.ref rs)]) _
  refine own_by (fun tq_ kq_ => own_ldI X0 hx hZ e0 A_rs (k := 0) (v := (.int (own_f1 q_ r_ k_))) (by decide) (by decide) rfl (g := (mkF m 301 #[.val (.int sh0), .val (.int pm0), .val (.int nd0), .val (.ref lp), .val (.int r_), .val (.int k_), .val (.ref pr), .val (.ref bf), .val (.int q_), .val (.int a_), .val (.int b_), .val (.int c_), .val (.int (1 : Int32)), .val (.ref rs), .val (.int (1 : Int32))] [(.int (0 : Int32)), (.ref rs)])) rfl rfl (hb hby at_301) tq_ kq_) ?_
  show own_Go p e below T0 (mkF m 302 #[.val (.int sh0), .val (.int pm0), .val (.int nd0), .val (.ref lp), .val (.int r_), .val (.int k_), .val (.ref pr), .val (.ref bf), .val (.int q_), .val (.int a_), .val (.int b_), .val (.int c_), .val (.int (1 : Int32)), .val (.ref rs), .val (.int (1 : Int32))] [(.int (own_f1 q_ r_ k_))]) _
  refine own_s_iload X0.here hx (hb hby at_302) rfl ?_
  refine own_s_iload X0.here hx (hb hby at_304) rfl ?_
  refine own_s_iload X0.here hx (hb hby at_306) rfl ?_
  obtain ⟨_, _, ⟨T34, L34, k34, n34⟩, -, X34, ⟨Lc34, hQ34, l34, y34, z34⟩, st34⟩ := Jvm.LawKit.callS X0 hx (y := (⟨"com/example/geodesic/geodesic/graph/ShortestPathsWalkPinLaw", "s", "(III)I"⟩ : MethodName)) hown (mvT hZ (hw _ (List.mem_of_getElem? (i := 1) rfl))) (mvT hZ (hw _ (List.mem_of_getElem? (i := 2) rfl))) (mvT hZ (hw _ (List.mem_of_getElem? (i := 3) rfl))) (mvT hZ (hw _ (List.mem_of_getElem? (i := 4) rfl))) (by decide) (backOf (W := 1) (own_r1 l Z a0 hw [] q_ r_ k_  h0 n0 Z0 ) hZ (hw _ (List.mem_of_getElem? (i := 4) rfl)) (hw _ (List.mem_of_getElem? (i := 3) rfl)) (by decide) (by decide)) (g := (mkF m 308 #[.val (.int sh0), .val (.int pm0), .val (.int nd0), .val (.ref lp), .val (.int r_), .val (.int k_), .val (.ref pr), .val (.ref bf), .val (.int q_), .val (.int a_), .val (.int b_), .val (.int c_), .val (.int (1 : Int32)), .val (.ref rs), .val (.int (1 : Int32))] [(.int k_), (.int r_), (.int q_), (.int (own_f1 q_ r_ k_))])) rfl (by rw [hml]; rfl) (argsL := [(.int q_), (.int r_), (.int k_)]) (rest := [(.int (own_f1 q_ r_ k_))]) (lenOf own_pd_0 rfl) rfl (by show 2 * 0 + _ ≤ _; exact Nat.le_of_eq rfl) (hb hby at_308) (fun _ _ => ⟨rfl, e0, (by decide : 4 + 0 ≤ _), (by decide : 13 + 0 ≤ _)⟩)
  dsimp only [Pt.U, Pt.locs, Pt.cells, Pt.slots] at X34 l34 y34 z34 st34 hQ34
  subst l34 y34 z34
  obtain ⟨rfl, N34q, e34⟩ := hQ34
  have N34 := Fr.app N0 N34q
  refine own_by st34 ?_
  show own_Go p e below T34 (mkF m 311 #[.val (.int sh0), .val (.int pm0), .val (.int nd0), .val (.ref lp), .val (.int r_), .val (.int k_), .val (.ref pr), .val (.ref bf), .val (.int q_), .val (.int a_), .val (.int b_), .val (.int c_), .val (.int (1 : Int32)), .val (.ref rs), .val (.int (1 : Int32))] [(.int (own_f1 q_ r_ k_)), (.int (own_f1 q_ r_ k_))]) _
  refine own_s_icmpNo X34.here hx (hb hby at_311) (Jvm.Free.XT.ii_ne_f rfl) ?_
  refine own_s_iconst X34.here hx (1 : Int32) (hb hby at_314) rfl ?_
  show own_Go p e below T34 (mkF m 315 #[.val (.int sh0), .val (.int pm0), .val (.int nd0), .val (.ref lp), .val (.int r_), .val (.int k_), .val (.ref pr), .val (.ref bf), .val (.int q_), .val (.int a_), .val (.int b_), .val (.int c_), .val (.int (1 : Int32)), .val (.ref rs), .val (.int (1 : Int32))] [(.int (1 : Int32))]) _
  refine own_s_goto X34.here hx 319 (hb hby at_315) (by decide) (by decide) ?_
  refine own_s_istore X34.here hx #[.val (.int sh0), .val (.int pm0), .val (.int nd0), .val (.ref lp), .val (.int r_), .val (.int k_), .val (.ref pr), .val (.ref bf), .val (.int q_), .val (.int a_), .val (.int b_), .val (.int c_), .val (.int (1 : Int32)), .val (.ref rs), .val (.int (1 : Int32))] (hb hby at_319) rfl ?_
  refine own_s_iload X34.here hx (hb hby at_321) rfl ?_
  refine own_s_ifNo X34.here hx (hb hby at_323) (Jvm.Free.XT.i0_eq_f ((by decide))) ?_
  refine own_s_iload X34.here hx (hb hby at_326) rfl ?_
  refine own_s_iconst X34.here hx (2 : Int32) (hb hby at_328) rfl ?_
  show own_Go p e below T34 (mkF m 329 #[.val (.int sh0), .val (.int pm0), .val (.int nd0), .val (.ref lp), .val (.int r_), .val (.int k_), .val (.ref pr), .val (.ref bf), .val (.int q_), .val (.int a_), .val (.int b_), .val (.int c_), .val (.int (1 : Int32)), .val (.ref rs), .val (.int (1 : Int32))] [(.int (2 : Int32)), (.int (1 : Int32))]) _
  refine own_s_icmpYes X34.here hx 358 (hb hby at_329) (Jvm.Free.XT.ii_lt_t ((by decide))) (by decide) (by decide) ?_
  refine own_s_iload X34.here hx (hb hby at_358) rfl ?_
  refine own_s_ifNo X34.here hx (hb hby at_360) (Jvm.Free.XT.i0_eq_f ((by decide))) ?_
  refine own_s_iload X34.here hx (hb hby at_363) rfl ?_
  refine own_s_iconst X34.here hx (3 : Int32) (hb hby at_365) rfl ?_
  show own_Go p e below T34 (mkF m 366 #[.val (.int sh0), .val (.int pm0), .val (.int nd0), .val (.ref lp), .val (.int r_), .val (.int k_), .val (.ref pr), .val (.ref bf), .val (.int q_), .val (.int a_), .val (.int b_), .val (.int c_), .val (.int (1 : Int32)), .val (.ref rs), .val (.int (1 : Int32))] [(.int (3 : Int32)), (.int (1 : Int32))]) _
  refine own_s_icmpYes X34.here hx 395 (hb hby at_366) (Jvm.Free.XT.ii_lt_t ((by decide))) (by decide) (by decide) ?_
  refine own_s_iload X34.here hx (hb hby at_395) rfl ?_
  refine own_s_ifNo X34.here hx (hb hby at_397) (Jvm.Free.XT.i0_eq_f ((by decide))) ?_
  refine own_s_iload X34.here hx (hb hby at_400) rfl ?_
  refine own_s_iconst X34.here hx (4 : Int32) (hb hby at_402) rfl ?_
  show own_Go p e below T34 (mkF m 403 #[.val (.int sh0), .val (.int pm0), .val (.int nd0), .val (.ref lp), .val (.int r_), .val (.int k_), .val (.ref pr), .val (.ref bf), .val (.int q_), .val (.int a_), .val (.int b_), .val (.int c_), .val (.int (1 : Int32)), .val (.ref rs), .val (.int (1 : Int32))] [(.int (4 : Int32)), (.int (1 : Int32))]) _
  refine own_s_icmpYes X34.here hx 432 (hb hby at_403) (Jvm.Free.XT.ii_lt_t ((by decide))) (by decide) (by decide) ?_
  refine own_s_iload X34.here hx (hb hby at_432) rfl ?_
  refine own_s_ifNo X34.here hx (hb hby at_434) (Jvm.Free.XT.i0_eq_f ((by decide))) ?_
  refine own_s_aload X34.here hx (hb hby at_437) rfl rfl ?_
  refine own_s_iconst X34.here hx (0 : Int32) (hb hby at_439) rfl ?_
  refine own_by (fun tq_ kq_ => own_ldI X34 hx hZ e34 A_pr (k := 0) (v := (.int ((own_pf s0 s1 s2 s3 v0 v1 v2 v3) 0))) (by decide) (by decide) rfl (g := (mkF m 440 #[.val (.int sh0), .val (.int pm0), .val (.int nd0), .val (.ref lp), .val (.int r_), .val (.int k_), .val (.ref pr), .val (.ref bf), .val (.int q_), .val (.int a_), .val (.int b_), .val (.int c_), .val (.int (1 : Int32)), .val (.ref rs), .val (.int (1 : Int32))] [(.int (0 : Int32)), (.ref pr)])) rfl rfl (hb hby at_440) tq_ kq_) ?_
  show own_Go p e below T34 (mkF m 441 #[.val (.int sh0), .val (.int pm0), .val (.int nd0), .val (.ref lp), .val (.int r_), .val (.int k_), .val (.ref pr), .val (.ref bf), .val (.int q_), .val (.int a_), .val (.int b_), .val (.int c_), .val (.int (1 : Int32)), .val (.ref rs), .val (.int (1 : Int32))] [(.int ((own_pf s0 s1 s2 s3 v0 v1 v2 v3) 0))]) _
  refine own_s_aload X34.here hx (hb hby at_441) rfl rfl ?_
  refine own_s_iconst X34.here hx (0 : Int32) (hb hby at_443) rfl ?_
  refine own_by (fun tq_ kq_ => own_ldI X34 hx hZ e34 A_bf (k := 0) (v := (.int ((own_pf s0 s1 s2 s3 v0 v1 v2 v3) 0))) (by decide) (by decide) rfl (g := (mkF m 444 #[.val (.int sh0), .val (.int pm0), .val (.int nd0), .val (.ref lp), .val (.int r_), .val (.int k_), .val (.ref pr), .val (.ref bf), .val (.int q_), .val (.int a_), .val (.int b_), .val (.int c_), .val (.int (1 : Int32)), .val (.ref rs), .val (.int (1 : Int32))] [(.int (0 : Int32)), (.ref bf), (.int ((own_pf s0 s1 s2 s3 v0 v1 v2 v3) 0))])) rfl rfl (hb hby at_444) tq_ kq_) ?_
  show own_Go p e below T34 (mkF m 445 #[.val (.int sh0), .val (.int pm0), .val (.int nd0), .val (.ref lp), .val (.int r_), .val (.int k_), .val (.ref pr), .val (.ref bf), .val (.int q_), .val (.int a_), .val (.int b_), .val (.int c_), .val (.int (1 : Int32)), .val (.ref rs), .val (.int (1 : Int32))] [(.int ((own_pf s0 s1 s2 s3 v0 v1 v2 v3) 0)), (.int ((own_pf s0 s1 s2 s3 v0 v1 v2 v3) 0))]) _
  refine own_s_icmpNo X34.here hx (hb hby at_445) (Jvm.Free.XT.ii_ne_f rfl) ?_
  refine own_s_aload X34.here hx (hb hby at_448) rfl rfl ?_
  refine own_s_iconst X34.here hx (1 : Int32) (hb hby at_450) rfl ?_
  refine own_by (fun tq_ kq_ => own_ldI X34 hx hZ e34 A_pr (k := 1) (v := (.int ((own_pf s0 s1 s2 s3 v0 v1 v2 v3) 1))) (by decide) (by decide) rfl (g := (mkF m 451 #[.val (.int sh0), .val (.int pm0), .val (.int nd0), .val (.ref lp), .val (.int r_), .val (.int k_), .val (.ref pr), .val (.ref bf), .val (.int q_), .val (.int a_), .val (.int b_), .val (.int c_), .val (.int (1 : Int32)), .val (.ref rs), .val (.int (1 : Int32))] [(.int (1 : Int32)), (.ref pr)])) rfl rfl (hb hby at_451) tq_ kq_) ?_
  show own_Go p e below T34 (mkF m 452 #[.val (.int sh0), .val (.int pm0), .val (.int nd0), .val (.ref lp), .val (.int r_), .val (.int k_), .val (.ref pr), .val (.ref bf), .val (.int q_), .val (.int a_), .val (.int b_), .val (.int c_), .val (.int (1 : Int32)), .val (.ref rs), .val (.int (1 : Int32))] [(.int ((own_pf s0 s1 s2 s3 v0 v1 v2 v3) 1))]) _
  refine own_s_aload X34.here hx (hb hby at_452) rfl rfl ?_
  refine own_s_iconst X34.here hx (1 : Int32) (hb hby at_454) rfl ?_
  refine own_by (fun tq_ kq_ => own_ldI X34 hx hZ e34 A_bf (k := 1) (v := (.int ((own_pf s0 s1 s2 s3 v0 v1 v2 v3) 1))) (by decide) (by decide) rfl (g := (mkF m 455 #[.val (.int sh0), .val (.int pm0), .val (.int nd0), .val (.ref lp), .val (.int r_), .val (.int k_), .val (.ref pr), .val (.ref bf), .val (.int q_), .val (.int a_), .val (.int b_), .val (.int c_), .val (.int (1 : Int32)), .val (.ref rs), .val (.int (1 : Int32))] [(.int (1 : Int32)), (.ref bf), (.int ((own_pf s0 s1 s2 s3 v0 v1 v2 v3) 1))])) rfl rfl (hb hby at_455) tq_ kq_) ?_
  show own_Go p e below T34 (mkF m 456 #[.val (.int sh0), .val (.int pm0), .val (.int nd0), .val (.ref lp), .val (.int r_), .val (.int k_), .val (.ref pr), .val (.ref bf), .val (.int q_), .val (.int a_), .val (.int b_), .val (.int c_), .val (.int (1 : Int32)), .val (.ref rs), .val (.int (1 : Int32))] [(.int ((own_pf s0 s1 s2 s3 v0 v1 v2 v3) 1)), (.int ((own_pf s0 s1 s2 s3 v0 v1 v2 v3) 1))]) _
  refine own_s_icmpNo X34.here hx (hb hby at_456) (Jvm.Free.XT.ii_ne_f rfl) ?_
  refine own_s_aload X34.here hx (hb hby at_459) rfl rfl ?_
  refine own_s_iconst X34.here hx (2 : Int32) (hb hby at_461) rfl ?_
  refine own_by (fun tq_ kq_ => own_ldI X34 hx hZ e34 A_pr (k := 2) (v := (.int ((own_pf s0 s1 s2 s3 v0 v1 v2 v3) 2))) (by decide) (by decide) rfl (g := (mkF m 462 #[.val (.int sh0), .val (.int pm0), .val (.int nd0), .val (.ref lp), .val (.int r_), .val (.int k_), .val (.ref pr), .val (.ref bf), .val (.int q_), .val (.int a_), .val (.int b_), .val (.int c_), .val (.int (1 : Int32)), .val (.ref rs), .val (.int (1 : Int32))] [(.int (2 : Int32)), (.ref pr)])) rfl rfl (hb hby at_462) tq_ kq_) ?_
  show own_Go p e below T34 (mkF m 463 #[.val (.int sh0), .val (.int pm0), .val (.int nd0), .val (.ref lp), .val (.int r_), .val (.int k_), .val (.ref pr), .val (.ref bf), .val (.int q_), .val (.int a_), .val (.int b_), .val (.int c_), .val (.int (1 : Int32)), .val (.ref rs), .val (.int (1 : Int32))] [(.int ((own_pf s0 s1 s2 s3 v0 v1 v2 v3) 2))]) _
  refine own_s_aload X34.here hx (hb hby at_463) rfl rfl ?_
  refine own_s_iconst X34.here hx (2 : Int32) (hb hby at_465) rfl ?_
  refine own_by (fun tq_ kq_ => own_ldI X34 hx hZ e34 A_bf (k := 2) (v := (.int ((own_pf s0 s1 s2 s3 v0 v1 v2 v3) 2))) (by decide) (by decide) rfl (g := (mkF m 466 #[.val (.int sh0), .val (.int pm0), .val (.int nd0), .val (.ref lp), .val (.int r_), .val (.int k_), .val (.ref pr), .val (.ref bf), .val (.int q_), .val (.int a_), .val (.int b_), .val (.int c_), .val (.int (1 : Int32)), .val (.ref rs), .val (.int (1 : Int32))] [(.int (2 : Int32)), (.ref bf), (.int ((own_pf s0 s1 s2 s3 v0 v1 v2 v3) 2))])) rfl rfl (hb hby at_466) tq_ kq_) ?_
  show own_Go p e below T34 (mkF m 467 #[.val (.int sh0), .val (.int pm0), .val (.int nd0), .val (.ref lp), .val (.int r_), .val (.int k_), .val (.ref pr), .val (.ref bf), .val (.int q_), .val (.int a_), .val (.int b_), .val (.int c_), .val (.int (1 : Int32)), .val (.ref rs), .val (.int (1 : Int32))] [(.int ((own_pf s0 s1 s2 s3 v0 v1 v2 v3) 2)), (.int ((own_pf s0 s1 s2 s3 v0 v1 v2 v3) 2))]) _
  refine own_s_icmpNo X34.here hx (hb hby at_467) (Jvm.Free.XT.ii_ne_f rfl) ?_
  refine own_s_aload X34.here hx (hb hby at_470) rfl rfl ?_
  refine own_s_iconst X34.here hx (3 : Int32) (hb hby at_472) rfl ?_
  refine own_by (fun tq_ kq_ => own_ldI X34 hx hZ e34 A_pr (k := 3) (v := (.int ((own_pf s0 s1 s2 s3 v0 v1 v2 v3) 3))) (by decide) (by decide) rfl (g := (mkF m 473 #[.val (.int sh0), .val (.int pm0), .val (.int nd0), .val (.ref lp), .val (.int r_), .val (.int k_), .val (.ref pr), .val (.ref bf), .val (.int q_), .val (.int a_), .val (.int b_), .val (.int c_), .val (.int (1 : Int32)), .val (.ref rs), .val (.int (1 : Int32))] [(.int (3 : Int32)), (.ref pr)])) rfl rfl (hb hby at_473) tq_ kq_) ?_
  show own_Go p e below T34 (mkF m 474 #[.val (.int sh0), .val (.int pm0), .val (.int nd0), .val (.ref lp), .val (.int r_), .val (.int k_), .val (.ref pr), .val (.ref bf), .val (.int q_), .val (.int a_), .val (.int b_), .val (.int c_), .val (.int (1 : Int32)), .val (.ref rs), .val (.int (1 : Int32))] [(.int ((own_pf s0 s1 s2 s3 v0 v1 v2 v3) 3))]) _
  refine own_s_aload X34.here hx (hb hby at_474) rfl rfl ?_
  refine own_s_iconst X34.here hx (3 : Int32) (hb hby at_476) rfl ?_
  refine own_by (fun tq_ kq_ => own_ldI X34 hx hZ e34 A_bf (k := 3) (v := (.int ((own_pf s0 s1 s2 s3 v0 v1 v2 v3) 3))) (by decide) (by decide) rfl (g := (mkF m 477 #[.val (.int sh0), .val (.int pm0), .val (.int nd0), .val (.ref lp), .val (.int r_), .val (.int k_), .val (.ref pr), .val (.ref bf), .val (.int q_), .val (.int a_), .val (.int b_), .val (.int c_), .val (.int (1 : Int32)), .val (.ref rs), .val (.int (1 : Int32))] [(.int (3 : Int32)), (.ref bf), (.int ((own_pf s0 s1 s2 s3 v0 v1 v2 v3) 3))])) rfl rfl (hb hby at_477) tq_ kq_) ?_
  show own_Go p e below T34 (mkF m 478 #[.val (.int sh0), .val (.int pm0), .val (.int nd0), .val (.ref lp), .val (.int r_), .val (.int k_), .val (.ref pr), .val (.ref bf), .val (.int q_), .val (.int a_), .val (.int b_), .val (.int c_), .val (.int (1 : Int32)), .val (.ref rs), .val (.int (1 : Int32))] [(.int ((own_pf s0 s1 s2 s3 v0 v1 v2 v3) 3)), (.int ((own_pf s0 s1 s2 s3 v0 v1 v2 v3) 3))]) _
  refine own_s_icmpNo X34.here hx (hb hby at_478) (Jvm.Free.XT.ii_ne_f rfl) ?_
  refine own_s_iconst X34.here hx (1 : Int32) (hb hby at_481) rfl ?_
  show own_Go p e below T34 (mkF m 482 #[.val (.int sh0), .val (.int pm0), .val (.int nd0), .val (.ref lp), .val (.int r_), .val (.int k_), .val (.ref pr), .val (.ref bf), .val (.int q_), .val (.int a_), .val (.int b_), .val (.int c_), .val (.int (1 : Int32)), .val (.ref rs), .val (.int (1 : Int32))] [(.int (1 : Int32))]) _
  refine own_s_goto X34.here hx 486 (hb hby at_482) (by decide) (by decide) ?_
  refine own_s_istore X34.here hx #[.val (.int sh0), .val (.int pm0), .val (.int nd0), .val (.ref lp), .val (.int r_), .val (.int k_), .val (.ref pr), .val (.ref bf), .val (.int q_), .val (.int a_), .val (.int b_), .val (.int c_), .val (.int (1 : Int32)), .val (.ref rs), .val (.int (1 : Int32))] (hb hby at_486) rfl ?_
  refine own_s_iload X34.here hx (hb hby at_488) rfl ?_
  refine own_retZ X34 hx hret hlk (hb hby at_490) rfl (by decide) (by decide) ?_
  exact ⟨rfl, N34⟩
set_option maxRecDepth 65536 in
set_option maxHeartbeats 40000000 in
theorem own_t2 {p : Program} {l : Launch} {e : Env} {s : State} {m : MethodId} {args : Array Value} {below : List Frame} {meth : Method} {c : Code} {Z : State} {a0 : Array Value} {n0 : Nat} (hx : p.tables.exec = Jvm.exec) (hZ : Z.Warmed39 s.vm) (hw : ∀ d ∈ tables_1, d.before a0 Z = true) (hby : c.code = code) (hml : c.maxLocals = 15) (hown : s.vm.findClass "com/example/geodesic/geodesic/graph/ShortestPathsWalkPinLaw" = some m.cls) (hnm : meth.name = "law") (hret : meth.sig.returnType = (some .boolean)) (hlk : meth.locks = false) (sh0 pm0 nd0 r_ k_ q_ a_ b_ c_ v0 v1 v2 v3 : Int32) (lp pr bf rs : Addr) (s0 s1 s2 s3 : Nat) {T0 : State} {locs : List Loc} {h0 : Heap} (X0 : Stand p l e room_1 s m args below meth c T0 locs 4 14) (e0 : T0.heap = h0) (N0 : Fr n0 locs) (Z0 : n0 ≤ h0.size) (A_pr : own_Av Z h0 pr .int 4 (fun i => .int ((own_pf s0 s1 s2 s3 v0 v1 v2 v3) i))) (A_bf : own_Av Z h0 bf .int 4 (own_upd (own_upd (own_upd (own_upd (fun _ => (.int (0 : Int32))) 0 (.int ((own_pf s0 s1 s2 s3 v0 v1 v2 v3) 0))) 1 (.int ((own_pf s0 s1 s2 s3 v0 v1 v2 v3) 1))) 2 (.int ((own_pf s0 s1 s2 s3 v0 v1 v2 v3) 2))) 3 (.int ((own_pf s0 s1 s2 s3 v0 v1 v2 v3) 3)))) (A_rs : own_Av Z h0 rs .int 2 (own_upd (own_upd (fun _ => (.int (0 : Int32))) 1 (.int (own_f1 q_ r_ k_))) 0 (.int (own_f1 a_ r_ k_)))) :
    own_Go p e below T0 (mkF m 273 #[.val (.int sh0), .val (.int pm0), .val (.int nd0), .val (.ref lp), .val (.int r_), .val (.int k_), .val (.ref pr), .val (.ref bf), .val (.int q_), .val (.int a_), .val (.int b_), .val (.int c_), .val (.int (2 : Int32)), .unset, .unset] [(.ref rs)]) (own_Fin s (fun (v : Option Value) (h : Heap) (L : List Loc) => v = some (.int 1) ∧ Fr n0 L) 16 128) := by
  show own_Go p e below T0 (mkF m 273 #[.val (.int sh0), .val (.int pm0), .val (.int nd0), .val (.ref lp), .val (.int r_), .val (.int k_), .val (.ref pr), .val (.ref bf), .val (.int q_), .val (.int a_), .val (.int b_), .val (.int c_), .val (.int (2 : Int32)), .unset, .unset] [(.ref rs)]) _
  refine own_s_astore X0.here hx #[.val (.int sh0), .val (.int pm0), .val (.int nd0), .val (.ref lp), .val (.int r_), .val (.int k_), .val (.ref pr), .val (.ref bf), .val (.int q_), .val (.int a_), .val (.int b_), .val (.int c_), .val (.int (2 : Int32)), .val (.ref rs), .unset] (hb hby at_273) rfl rfl ?_
  refine own_s_aload X0.here hx (hb hby at_275) rfl rfl ?_
  refine own_by (fun tq_ kq_ => own_len X0 hx hZ e0 A_rs (z := (2 : Int32)) rfl (g := (mkF m 277 #[.val (.int sh0), .val (.int pm0), .val (.int nd0), .val (.ref lp), .val (.int r_), .val (.int k_), .val (.ref pr), .val (.ref bf), .val (.int q_), .val (.int a_), .val (.int b_), .val (.int c_), .val (.int (2 : Int32)), .val (.ref rs), .unset] [(.ref rs)])) rfl rfl (hb hby at_277) tq_ kq_) ?_
  show own_Go p e below T0 (mkF m 278 #[.val (.int sh0), .val (.int pm0), .val (.int nd0), .val (.ref lp), .val (.int r_), .val (.int k_), .val (.ref pr), .val (.ref bf), .val (.int q_), .val (.int a_), .val (.int b_), .val (.int c_), .val (.int (2 : Int32)), .val (.ref rs), .unset] [(.int (2 : Int32))]) _
  refine own_s_iload X0.here hx (hb hby at_278) rfl ?_
  refine own_s_icmpNo X0.here hx (hb hby at_280) (Jvm.Free.XT.ii_ne_f ((by decide))) ?_
  refine own_s_iconst X0.here hx (1 : Int32) (hb hby at_283) rfl ?_
  show own_Go p e below T0 (mkF m 284 #[.val (.int sh0), .val (.int pm0), .val (.int nd0), .val (.ref lp), .val (.int r_), .val (.int k_), .val (.ref pr), .val (.ref bf), .val (.int q_), .val (.int a_), .val (.int b_), .val (.int c_), .val (.int (2 : Int32)), .val (.ref rs), .unset] [(.int (1 : Int32))]) _
  refine own_s_goto X0.here hx 288 (hb hby at_284) (by decide) (by decide) ?_
  refine own_s_istore X0.here hx #[.val (.int sh0), .val (.int pm0), .val (.int nd0), .val (.ref lp), .val (.int r_), .val (.int k_), .val (.ref pr), .val (.ref bf), .val (.int q_), .val (.int a_), .val (.int b_), .val (.int c_), .val (.int (2 : Int32)), .val (.ref rs), .val (.int (1 : Int32))] (hb hby at_288) rfl ?_
  refine own_s_iload X0.here hx (hb hby at_290) rfl ?_
  refine own_s_ifNo X0.here hx (hb hby at_292) (Jvm.Free.XT.i0_eq_f ((by decide))) ?_
  refine own_s_aload X0.here hx (hb hby at_295) rfl rfl ?_
  refine own_s_iload X0.here hx (hb hby at_297) rfl ?_
  refine own_s_iconst X0.here hx (1 : Int32) (hb hby at_299) rfl ?_
  refine own_s_isub X0.here hx (hb hby at_300) ?_
  show own_Go p e below T0 (mkF m 301 #[.val (.int sh0), .val (.int pm0), .val (.int nd0), .val (.ref lp), .val (.int r_), .val (.int k_), .val (.ref pr), .val (.ref bf), .val (.int q_), .val (.int a_), .val (.int b_), .val (.int c_), .val (.int (2 : Int32)), .val (.ref rs), .val (.int (1 : Int32))] [(.int (1 : Int32)), (.ref rs)]) _
  refine own_by (fun tq_ kq_ => own_ldI X0 hx hZ e0 A_rs (k := 1) (v := (.int (own_f1 q_ r_ k_))) (by decide) (by decide) rfl (g := (mkF m 301 #[.val (.int sh0), .val (.int pm0), .val (.int nd0), .val (.ref lp), .val (.int r_), .val (.int k_), .val (.ref pr), .val (.ref bf), .val (.int q_), .val (.int a_), .val (.int b_), .val (.int c_), .val (.int (2 : Int32)), .val (.ref rs), .val (.int (1 : Int32))] [(.int (1 : Int32)), (.ref rs)])) rfl rfl (hb hby at_301) tq_ kq_) ?_
  show own_Go p e below T0 (mkF m 302 #[.val (.int sh0), .val (.int pm0), .val (.int nd0), .val (.ref lp), .val (.int r_), .val (.int k_), .val (.ref pr), .val (.ref bf), .val (.int q_), .val (.int a_), .val (.int b_), .val (.int c_), .val (.int (2 : Int32)), .val (.ref rs), .val (.int (1 : Int32))] [(.int (own_f1 q_ r_ k_))]) _
  refine own_s_iload X0.here hx (hb hby at_302) rfl ?_
  refine own_s_iload X0.here hx (hb hby at_304) rfl ?_
  refine own_s_iload X0.here hx (hb hby at_306) rfl ?_
  obtain ⟨_, _, ⟨T35, L35, k35, n35⟩, -, X35, ⟨Lc35, hQ35, l35, y35, z35⟩, st35⟩ := Jvm.LawKit.callS X0 hx (y := (⟨"com/example/geodesic/geodesic/graph/ShortestPathsWalkPinLaw", "s", "(III)I"⟩ : MethodName)) hown (mvT hZ (hw _ (List.mem_of_getElem? (i := 1) rfl))) (mvT hZ (hw _ (List.mem_of_getElem? (i := 2) rfl))) (mvT hZ (hw _ (List.mem_of_getElem? (i := 3) rfl))) (mvT hZ (hw _ (List.mem_of_getElem? (i := 4) rfl))) (by decide) (backOf (W := 1) (own_r1 l Z a0 hw [] q_ r_ k_  h0 n0 Z0 ) hZ (hw _ (List.mem_of_getElem? (i := 4) rfl)) (hw _ (List.mem_of_getElem? (i := 3) rfl)) (by decide) (by decide)) (g := (mkF m 308 #[.val (.int sh0), .val (.int pm0), .val (.int nd0), .val (.ref lp), .val (.int r_), .val (.int k_), .val (.ref pr), .val (.ref bf), .val (.int q_), .val (.int a_), .val (.int b_), .val (.int c_), .val (.int (2 : Int32)), .val (.ref rs), .val (.int (1 : Int32))] [(.int k_), (.int r_), (.int q_), (.int (own_f1 q_ r_ k_))])) rfl (by rw [hml]; rfl) (argsL := [(.int q_), (.int r_), (.int k_)]) (rest := [(.int (own_f1 q_ r_ k_))]) (lenOf own_pd_0 rfl) rfl (by show 2 * 0 + _ ≤ _; exact Nat.le_of_eq rfl) (hb hby at_308) (fun _ _ => ⟨rfl, e0, (by decide : 4 + 0 ≤ _), (by decide : 14 + 0 ≤ _)⟩)
  dsimp only [Pt.U, Pt.locs, Pt.cells, Pt.slots] at X35 l35 y35 z35 st35 hQ35
  subst l35 y35 z35
  obtain ⟨rfl, N35q, e35⟩ := hQ35
  have N35 := Fr.app N0 N35q
  refine own_by st35 ?_
  show own_Go p e below T35 (mkF m 311 #[.val (.int sh0), .val (.int pm0), .val (.int nd0), .val (.ref lp), .val (.int r_), .val (.int k_), .val (.ref pr), .val (.ref bf), .val (.int q_), .val (.int a_), .val (.int b_), .val (.int c_), .val (.int (2 : Int32)), .val (.ref rs), .val (.int (1 : Int32))] [(.int (own_f1 q_ r_ k_)), (.int (own_f1 q_ r_ k_))]) _
  refine own_s_icmpNo X35.here hx (hb hby at_311) (Jvm.Free.XT.ii_ne_f rfl) ?_
  refine own_s_iconst X35.here hx (1 : Int32) (hb hby at_314) rfl ?_
  show own_Go p e below T35 (mkF m 315 #[.val (.int sh0), .val (.int pm0), .val (.int nd0), .val (.ref lp), .val (.int r_), .val (.int k_), .val (.ref pr), .val (.ref bf), .val (.int q_), .val (.int a_), .val (.int b_), .val (.int c_), .val (.int (2 : Int32)), .val (.ref rs), .val (.int (1 : Int32))] [(.int (1 : Int32))]) _
  refine own_s_goto X35.here hx 319 (hb hby at_315) (by decide) (by decide) ?_
  refine own_s_istore X35.here hx #[.val (.int sh0), .val (.int pm0), .val (.int nd0), .val (.ref lp), .val (.int r_), .val (.int k_), .val (.ref pr), .val (.ref bf), .val (.int q_), .val (.int a_), .val (.int b_), .val (.int c_), .val (.int (2 : Int32)), .val (.ref rs), .val (.int (1 : Int32))] (hb hby at_319) rfl ?_
  refine own_s_iload X35.here hx (hb hby at_321) rfl ?_
  refine own_s_ifNo X35.here hx (hb hby at_323) (Jvm.Free.XT.i0_eq_f ((by decide))) ?_
  refine own_s_iload X35.here hx (hb hby at_326) rfl ?_
  refine own_s_iconst X35.here hx (2 : Int32) (hb hby at_328) rfl ?_
  refine own_s_icmpNo X35.here hx (hb hby at_329) (Jvm.Free.XT.ii_lt_f ((by decide))) ?_
  refine own_s_aload X35.here hx (hb hby at_332) rfl rfl ?_
  refine own_s_iload X35.here hx (hb hby at_334) rfl ?_
  refine own_s_iconst X35.here hx (2 : Int32) (hb hby at_336) rfl ?_
  refine own_s_isub X35.here hx (hb hby at_337) ?_
  show own_Go p e below T35 (mkF m 338 #[.val (.int sh0), .val (.int pm0), .val (.int nd0), .val (.ref lp), .val (.int r_), .val (.int k_), .val (.ref pr), .val (.ref bf), .val (.int q_), .val (.int a_), .val (.int b_), .val (.int c_), .val (.int (2 : Int32)), .val (.ref rs), .val (.int (1 : Int32))] [(.int (0 : Int32)), (.ref rs)]) _
  refine own_by (fun tq_ kq_ => own_ldI X35 hx hZ e35 A_rs (k := 0) (v := (.int (own_f1 a_ r_ k_))) (by decide) (by decide) rfl (g := (mkF m 338 #[.val (.int sh0), .val (.int pm0), .val (.int nd0), .val (.ref lp), .val (.int r_), .val (.int k_), .val (.ref pr), .val (.ref bf), .val (.int q_), .val (.int a_), .val (.int b_), .val (.int c_), .val (.int (2 : Int32)), .val (.ref rs), .val (.int (1 : Int32))] [(.int (0 : Int32)), (.ref rs)])) rfl rfl (hb hby at_338) tq_ kq_) ?_
  show own_Go p e below T35 (mkF m 339 #[.val (.int sh0), .val (.int pm0), .val (.int nd0), .val (.ref lp), .val (.int r_), .val (.int k_), .val (.ref pr), .val (.ref bf), .val (.int q_), .val (.int a_), .val (.int b_), .val (.int c_), .val (.int (2 : Int32)), .val (.ref rs), .val (.int (1 : Int32))] [(.int (own_f1 a_ r_ k_))]) _
  refine own_s_iload X35.here hx (hb hby at_339) rfl ?_
  refine own_s_iload X35.here hx (hb hby at_341) rfl ?_
  refine own_s_iload X35.here hx (hb hby at_343) rfl ?_
  obtain ⟨_, _, ⟨T36, L36, k36, n36⟩, -, X36, ⟨Lc36, hQ36, l36, y36, z36⟩, st36⟩ := Jvm.LawKit.callS X35 hx (y := (⟨"com/example/geodesic/geodesic/graph/ShortestPathsWalkPinLaw", "s", "(III)I"⟩ : MethodName)) hown (mvT hZ (hw _ (List.mem_of_getElem? (i := 1) rfl))) (mvT hZ (hw _ (List.mem_of_getElem? (i := 2) rfl))) (mvT hZ (hw _ (List.mem_of_getElem? (i := 3) rfl))) (mvT hZ (hw _ (List.mem_of_getElem? (i := 4) rfl))) (by decide) (backOf (W := 1) (own_r1 l Z a0 hw [] a_ r_ k_  h0 n0 Z0 ) hZ (hw _ (List.mem_of_getElem? (i := 4) rfl)) (hw _ (List.mem_of_getElem? (i := 3) rfl)) (by decide) (by decide)) (g := (mkF m 345 #[.val (.int sh0), .val (.int pm0), .val (.int nd0), .val (.ref lp), .val (.int r_), .val (.int k_), .val (.ref pr), .val (.ref bf), .val (.int q_), .val (.int a_), .val (.int b_), .val (.int c_), .val (.int (2 : Int32)), .val (.ref rs), .val (.int (1 : Int32))] [(.int k_), (.int r_), (.int a_), (.int (own_f1 a_ r_ k_))])) rfl (by rw [hml]; rfl) (argsL := [(.int a_), (.int r_), (.int k_)]) (rest := [(.int (own_f1 a_ r_ k_))]) (lenOf own_pd_0 rfl) rfl (by show 2 * 0 + _ ≤ _; exact Nat.le_of_eq rfl) (hb hby at_345) (fun _ _ => ⟨rfl, e35, (by decide : 4 + 0 ≤ _), (by decide : 14 + 0 ≤ _)⟩)
  dsimp only [Pt.U, Pt.locs, Pt.cells, Pt.slots] at X36 l36 y36 z36 st36 hQ36
  subst l36 y36 z36
  obtain ⟨rfl, N36q, e36⟩ := hQ36
  have N36 := Fr.app N35 N36q
  refine own_by st36 ?_
  show own_Go p e below T36 (mkF m 348 #[.val (.int sh0), .val (.int pm0), .val (.int nd0), .val (.ref lp), .val (.int r_), .val (.int k_), .val (.ref pr), .val (.ref bf), .val (.int q_), .val (.int a_), .val (.int b_), .val (.int c_), .val (.int (2 : Int32)), .val (.ref rs), .val (.int (1 : Int32))] [(.int (own_f1 a_ r_ k_)), (.int (own_f1 a_ r_ k_))]) _
  refine own_s_icmpNo X36.here hx (hb hby at_348) (Jvm.Free.XT.ii_ne_f rfl) ?_
  refine own_s_iconst X36.here hx (1 : Int32) (hb hby at_351) rfl ?_
  show own_Go p e below T36 (mkF m 352 #[.val (.int sh0), .val (.int pm0), .val (.int nd0), .val (.ref lp), .val (.int r_), .val (.int k_), .val (.ref pr), .val (.ref bf), .val (.int q_), .val (.int a_), .val (.int b_), .val (.int c_), .val (.int (2 : Int32)), .val (.ref rs), .val (.int (1 : Int32))] [(.int (1 : Int32))]) _
  refine own_s_goto X36.here hx 356 (hb hby at_352) (by decide) (by decide) ?_
  refine own_s_istore X36.here hx #[.val (.int sh0), .val (.int pm0), .val (.int nd0), .val (.ref lp), .val (.int r_), .val (.int k_), .val (.ref pr), .val (.ref bf), .val (.int q_), .val (.int a_), .val (.int b_), .val (.int c_), .val (.int (2 : Int32)), .val (.ref rs), .val (.int (1 : Int32))] (hb hby at_356) rfl ?_
  refine own_s_iload X36.here hx (hb hby at_358) rfl ?_
  refine own_s_ifNo X36.here hx (hb hby at_360) (Jvm.Free.XT.i0_eq_f ((by decide))) ?_
  refine own_s_iload X36.here hx (hb hby at_363) rfl ?_
  refine own_s_iconst X36.here hx (3 : Int32) (hb hby at_365) rfl ?_
  show own_Go p e below T36 (mkF m 366 #[.val (.int sh0), .val (.int pm0), .val (.int nd0), .val (.ref lp), .val (.int r_), .val (.int k_), .val (.ref pr), .val (.ref bf), .val (.int q_), .val (.int a_), .val (.int b_), .val (.int c_), .val (.int (2 : Int32)), .val (.ref rs), .val (.int (1 : Int32))] [(.int (3 : Int32)), (.int (2 : Int32))]) _
  refine own_s_icmpYes X36.here hx 395 (hb hby at_366) (Jvm.Free.XT.ii_lt_t ((by decide))) (by decide) (by decide) ?_
  refine own_s_iload X36.here hx (hb hby at_395) rfl ?_
  refine own_s_ifNo X36.here hx (hb hby at_397) (Jvm.Free.XT.i0_eq_f ((by decide))) ?_
  refine own_s_iload X36.here hx (hb hby at_400) rfl ?_
  refine own_s_iconst X36.here hx (4 : Int32) (hb hby at_402) rfl ?_
  show own_Go p e below T36 (mkF m 403 #[.val (.int sh0), .val (.int pm0), .val (.int nd0), .val (.ref lp), .val (.int r_), .val (.int k_), .val (.ref pr), .val (.ref bf), .val (.int q_), .val (.int a_), .val (.int b_), .val (.int c_), .val (.int (2 : Int32)), .val (.ref rs), .val (.int (1 : Int32))] [(.int (4 : Int32)), (.int (2 : Int32))]) _
  refine own_s_icmpYes X36.here hx 432 (hb hby at_403) (Jvm.Free.XT.ii_lt_t ((by decide))) (by decide) (by decide) ?_
  refine own_s_iload X36.here hx (hb hby at_432) rfl ?_
  refine own_s_ifNo X36.here hx (hb hby at_434) (Jvm.Free.XT.i0_eq_f ((by decide))) ?_
  refine own_s_aload X36.here hx (hb hby at_437) rfl rfl ?_
  refine own_s_iconst X36.here hx (0 : Int32) (hb hby at_439) rfl ?_
  refine own_by (fun tq_ kq_ => own_ldI X36 hx hZ e36 A_pr (k := 0) (v := (.int ((own_pf s0 s1 s2 s3 v0 v1 v2 v3) 0))) (by decide) (by decide) rfl (g := (mkF m 440 #[.val (.int sh0), .val (.int pm0), .val (.int nd0), .val (.ref lp), .val (.int r_), .val (.int k_), .val (.ref pr), .val (.ref bf), .val (.int q_), .val (.int a_), .val (.int b_), .val (.int c_), .val (.int (2 : Int32)), .val (.ref rs), .val (.int (1 : Int32))] [(.int (0 : Int32)), (.ref pr)])) rfl rfl (hb hby at_440) tq_ kq_) ?_
  show own_Go p e below T36 (mkF m 441 #[.val (.int sh0), .val (.int pm0), .val (.int nd0), .val (.ref lp), .val (.int r_), .val (.int k_), .val (.ref pr), .val (.ref bf), .val (.int q_), .val (.int a_), .val (.int b_), .val (.int c_), .val (.int (2 : Int32)), .val (.ref rs), .val (.int (1 : Int32))] [(.int ((own_pf s0 s1 s2 s3 v0 v1 v2 v3) 0))]) _
  refine own_s_aload X36.here hx (hb hby at_441) rfl rfl ?_
  refine own_s_iconst X36.here hx (0 : Int32) (hb hby at_443) rfl ?_
  refine own_by (fun tq_ kq_ => own_ldI X36 hx hZ e36 A_bf (k := 0) (v := (.int ((own_pf s0 s1 s2 s3 v0 v1 v2 v3) 0))) (by decide) (by decide) rfl (g := (mkF m 444 #[.val (.int sh0), .val (.int pm0), .val (.int nd0), .val (.ref lp), .val (.int r_), .val (.int k_), .val (.ref pr), .val (.ref bf), .val (.int q_), .val (.int a_), .val (.int b_), .val (.int c_), .val (.int (2 : Int32)), .val (.ref rs), .val (.int (1 : Int32))] [(.int (0 : Int32)), (.ref bf), (.int ((own_pf s0 s1 s2 s3 v0 v1 v2 v3) 0))])) rfl rfl (hb hby at_444) tq_ kq_) ?_
  show own_Go p e below T36 (mkF m 445 #[.val (.int sh0), .val (.int pm0), .val (.int nd0), .val (.ref lp), .val (.int r_), .val (.int k_), .val (.ref pr), .val (.ref bf), .val (.int q_), .val (.int a_), .val (.int b_), .val (.int c_), .val (.int (2 : Int32)), .val (.ref rs), .val (.int (1 : Int32))] [(.int ((own_pf s0 s1 s2 s3 v0 v1 v2 v3) 0)), (.int ((own_pf s0 s1 s2 s3 v0 v1 v2 v3) 0))]) _
  refine own_s_icmpNo X36.here hx (hb hby at_445) (Jvm.Free.XT.ii_ne_f rfl) ?_
  refine own_s_aload X36.here hx (hb hby at_448) rfl rfl ?_
  refine own_s_iconst X36.here hx (1 : Int32) (hb hby at_450) rfl ?_
  refine own_by (fun tq_ kq_ => own_ldI X36 hx hZ e36 A_pr (k := 1) (v := (.int ((own_pf s0 s1 s2 s3 v0 v1 v2 v3) 1))) (by decide) (by decide) rfl (g := (mkF m 451 #[.val (.int sh0), .val (.int pm0), .val (.int nd0), .val (.ref lp), .val (.int r_), .val (.int k_), .val (.ref pr), .val (.ref bf), .val (.int q_), .val (.int a_), .val (.int b_), .val (.int c_), .val (.int (2 : Int32)), .val (.ref rs), .val (.int (1 : Int32))] [(.int (1 : Int32)), (.ref pr)])) rfl rfl (hb hby at_451) tq_ kq_) ?_
  show own_Go p e below T36 (mkF m 452 #[.val (.int sh0), .val (.int pm0), .val (.int nd0), .val (.ref lp), .val (.int r_), .val (.int k_), .val (.ref pr), .val (.ref bf), .val (.int q_), .val (.int a_), .val (.int b_), .val (.int c_), .val (.int (2 : Int32)), .val (.ref rs), .val (.int (1 : Int32))] [(.int ((own_pf s0 s1 s2 s3 v0 v1 v2 v3) 1))]) _
  refine own_s_aload X36.here hx (hb hby at_452) rfl rfl ?_
  refine own_s_iconst X36.here hx (1 : Int32) (hb hby at_454) rfl ?_
  refine own_by (fun tq_ kq_ => own_ldI X36 hx hZ e36 A_bf (k := 1) (v := (.int ((own_pf s0 s1 s2 s3 v0 v1 v2 v3) 1))) (by decide) (by decide) rfl (g := (mkF m 455 #[.val (.int sh0), .val (.int pm0), .val (.int nd0), .val (.ref lp), .val (.int r_), .val (.int k_), .val (.ref pr), .val (.ref bf), .val (.int q_), .val (.int a_), .val (.int b_), .val (.int c_), .val (.int (2 : Int32)), .val (.ref rs), .val (.int (1 : Int32))] [(.int (1 : Int32)), (.ref bf), (.int ((own_pf s0 s1 s2 s3 v0 v1 v2 v3) 1))])) rfl rfl (hb hby at_455) tq_ kq_) ?_
  show own_Go p e below T36 (mkF m 456 #[.val (.int sh0), .val (.int pm0), .val (.int nd0), .val (.ref lp), .val (.int r_), .val (.int k_), .val (.ref pr), .val (.ref bf), .val (.int q_), .val (.int a_), .val (.int b_), .val (.int c_), .val (.int (2 : Int32)), .val (.ref rs), .val (.int (1 : Int32))] [(.int ((own_pf s0 s1 s2 s3 v0 v1 v2 v3) 1)), (.int ((own_pf s0 s1 s2 s3 v0 v1 v2 v3) 1))]) _
  refine own_s_icmpNo X36.here hx (hb hby at_456) (Jvm.Free.XT.ii_ne_f rfl) ?_
  refine own_s_aload X36.here hx (hb hby at_459) rfl rfl ?_
  refine own_s_iconst X36.here hx (2 : Int32) (hb hby at_461) rfl ?_
  refine own_by (fun tq_ kq_ => own_ldI X36 hx hZ e36 A_pr (k := 2) (v := (.int ((own_pf s0 s1 s2 s3 v0 v1 v2 v3) 2))) (by decide) (by decide) rfl (g := (mkF m 462 #[.val (.int sh0), .val (.int pm0), .val (.int nd0), .val (.ref lp), .val (.int r_), .val (.int k_), .val (.ref pr), .val (.ref bf), .val (.int q_), .val (.int a_), .val (.int b_), .val (.int c_), .val (.int (2 : Int32)), .val (.ref rs), .val (.int (1 : Int32))] [(.int (2 : Int32)), (.ref pr)])) rfl rfl (hb hby at_462) tq_ kq_) ?_
  show own_Go p e below T36 (mkF m 463 #[.val (.int sh0), .val (.int pm0), .val (.int nd0), .val (.ref lp), .val (.int r_), .val (.int k_), .val (.ref pr), .val (.ref bf), .val (.int q_), .val (.int a_), .val (.int b_), .val (.int c_), .val (.int (2 : Int32)), .val (.ref rs), .val (.int (1 : Int32))] [(.int ((own_pf s0 s1 s2 s3 v0 v1 v2 v3) 2))]) _
  refine own_s_aload X36.here hx (hb hby at_463) rfl rfl ?_
  refine own_s_iconst X36.here hx (2 : Int32) (hb hby at_465) rfl ?_
  refine own_by (fun tq_ kq_ => own_ldI X36 hx hZ e36 A_bf (k := 2) (v := (.int ((own_pf s0 s1 s2 s3 v0 v1 v2 v3) 2))) (by decide) (by decide) rfl (g := (mkF m 466 #[.val (.int sh0), .val (.int pm0), .val (.int nd0), .val (.ref lp), .val (.int r_), .val (.int k_), .val (.ref pr), .val (.ref bf), .val (.int q_), .val (.int a_), .val (.int b_), .val (.int c_), .val (.int (2 : Int32)), .val (.ref rs), .val (.int (1 : Int32))] [(.int (2 : Int32)), (.ref bf), (.int ((own_pf s0 s1 s2 s3 v0 v1 v2 v3) 2))])) rfl rfl (hb hby at_466) tq_ kq_) ?_
  show own_Go p e below T36 (mkF m 467 #[.val (.int sh0), .val (.int pm0), .val (.int nd0), .val (.ref lp), .val (.int r_), .val (.int k_), .val (.ref pr), .val (.ref bf), .val (.int q_), .val (.int a_), .val (.int b_), .val (.int c_), .val (.int (2 : Int32)), .val (.ref rs), .val (.int (1 : Int32))] [(.int ((own_pf s0 s1 s2 s3 v0 v1 v2 v3) 2)), (.int ((own_pf s0 s1 s2 s3 v0 v1 v2 v3) 2))]) _
  refine own_s_icmpNo X36.here hx (hb hby at_467) (Jvm.Free.XT.ii_ne_f rfl) ?_
  refine own_s_aload X36.here hx (hb hby at_470) rfl rfl ?_
  refine own_s_iconst X36.here hx (3 : Int32) (hb hby at_472) rfl ?_
  refine own_by (fun tq_ kq_ => own_ldI X36 hx hZ e36 A_pr (k := 3) (v := (.int ((own_pf s0 s1 s2 s3 v0 v1 v2 v3) 3))) (by decide) (by decide) rfl (g := (mkF m 473 #[.val (.int sh0), .val (.int pm0), .val (.int nd0), .val (.ref lp), .val (.int r_), .val (.int k_), .val (.ref pr), .val (.ref bf), .val (.int q_), .val (.int a_), .val (.int b_), .val (.int c_), .val (.int (2 : Int32)), .val (.ref rs), .val (.int (1 : Int32))] [(.int (3 : Int32)), (.ref pr)])) rfl rfl (hb hby at_473) tq_ kq_) ?_
  show own_Go p e below T36 (mkF m 474 #[.val (.int sh0), .val (.int pm0), .val (.int nd0), .val (.ref lp), .val (.int r_), .val (.int k_), .val (.ref pr), .val (.ref bf), .val (.int q_), .val (.int a_), .val (.int b_), .val (.int c_), .val (.int (2 : Int32)), .val (.ref rs), .val (.int (1 : Int32))] [(.int ((own_pf s0 s1 s2 s3 v0 v1 v2 v3) 3))]) _
  refine own_s_aload X36.here hx (hb hby at_474) rfl rfl ?_
  refine own_s_iconst X36.here hx (3 : Int32) (hb hby at_476) rfl ?_
  refine own_by (fun tq_ kq_ => own_ldI X36 hx hZ e36 A_bf (k := 3) (v := (.int ((own_pf s0 s1 s2 s3 v0 v1 v2 v3) 3))) (by decide) (by decide) rfl (g := (mkF m 477 #[.val (.int sh0), .val (.int pm0), .val (.int nd0), .val (.ref lp), .val (.int r_), .val (.int k_), .val (.ref pr), .val (.ref bf), .val (.int q_), .val (.int a_), .val (.int b_), .val (.int c_), .val (.int (2 : Int32)), .val (.ref rs), .val (.int (1 : Int32))] [(.int (3 : Int32)), (.ref bf), (.int ((own_pf s0 s1 s2 s3 v0 v1 v2 v3) 3))])) rfl rfl (hb hby at_477) tq_ kq_) ?_
  show own_Go p e below T36 (mkF m 478 #[.val (.int sh0), .val (.int pm0), .val (.int nd0), .val (.ref lp), .val (.int r_), .val (.int k_), .val (.ref pr), .val (.ref bf), .val (.int q_), .val (.int a_), .val (.int b_), .val (.int c_), .val (.int (2 : Int32)), .val (.ref rs), .val (.int (1 : Int32))] [(.int ((own_pf s0 s1 s2 s3 v0 v1 v2 v3) 3)), (.int ((own_pf s0 s1 s2 s3 v0 v1 v2 v3) 3))]) _
  refine own_s_icmpNo X36.here hx (hb hby at_478) (Jvm.Free.XT.ii_ne_f rfl) ?_
  refine own_s_iconst X36.here hx (1 : Int32) (hb hby at_481) rfl ?_
  show own_Go p e below T36 (mkF m 482 #[.val (.int sh0), .val (.int pm0), .val (.int nd0), .val (.ref lp), .val (.int r_), .val (.int k_), .val (.ref pr), .val (.ref bf), .val (.int q_), .val (.int a_), .val (.int b_), .val (.int c_), .val (.int (2 : Int32)), .val (.ref rs), .val (.int (1 : Int32))] [(.int (1 : Int32))]) _
  refine own_s_goto X36.here hx 486 (hb hby at_482) (by decide) (by decide) ?_
  refine own_s_istore X36.here hx #[.val (.int sh0), .val (.int pm0), .val (.int nd0), .val (.ref lp), .val (.int r_), .val (.int k_), .val (.ref pr), .val (.ref bf), .val (.int q_), .val (.int a_), .val (.int b_), .val (.int c_), .val (.int (2 : Int32)), .val (.ref rs), .val (.int (1 : Int32))] (hb hby at_486) rfl ?_
  refine own_s_iload X36.here hx (hb hby at_488) rfl ?_
  refine own_retZ X36 hx hret hlk (hb hby at_490) rfl (by decide) (by decide) ?_
  exact ⟨rfl, N36⟩
set_option maxRecDepth 65536 in
set_option maxHeartbeats 40000000 in
theorem own_t3 {p : Program} {l : Launch} {e : Env} {s : State} {m : MethodId} {args : Array Value} {below : List Frame} {meth : Method} {c : Code} {Z : State} {a0 : Array Value} {n0 : Nat} (hx : p.tables.exec = Jvm.exec) (hZ : Z.Warmed39 s.vm) (hw : ∀ d ∈ tables_1, d.before a0 Z = true) (hby : c.code = code) (hml : c.maxLocals = 15) (hown : s.vm.findClass "com/example/geodesic/geodesic/graph/ShortestPathsWalkPinLaw" = some m.cls) (hnm : meth.name = "law") (hret : meth.sig.returnType = (some .boolean)) (hlk : meth.locks = false) (sh0 pm0 nd0 r_ k_ q_ a_ b_ c_ v0 v1 v2 v3 : Int32) (lp pr bf rs : Addr) (s0 s1 s2 s3 : Nat) {T0 : State} {locs : List Loc} {h0 : Heap} (X0 : Stand p l e room_1 s m args below meth c T0 locs 4 15) (e0 : T0.heap = h0) (N0 : Fr n0 locs) (Z0 : n0 ≤ h0.size) (A_pr : own_Av Z h0 pr .int 4 (fun i => .int ((own_pf s0 s1 s2 s3 v0 v1 v2 v3) i))) (A_bf : own_Av Z h0 bf .int 4 (own_upd (own_upd (own_upd (own_upd (fun _ => (.int (0 : Int32))) 0 (.int ((own_pf s0 s1 s2 s3 v0 v1 v2 v3) 0))) 1 (.int ((own_pf s0 s1 s2 s3 v0 v1 v2 v3) 1))) 2 (.int ((own_pf s0 s1 s2 s3 v0 v1 v2 v3) 2))) 3 (.int ((own_pf s0 s1 s2 s3 v0 v1 v2 v3) 3)))) (A_rs : own_Av Z h0 rs .int 3 (own_upd (own_upd (own_upd (fun _ => (.int (0 : Int32))) 2 (.int (own_f1 q_ r_ k_))) 1 (.int (own_f1 a_ r_ k_))) 0 (.int (own_f1 b_ r_ k_)))) :
    own_Go p e below T0 (mkF m 273 #[.val (.int sh0), .val (.int pm0), .val (.int nd0), .val (.ref lp), .val (.int r_), .val (.int k_), .val (.ref pr), .val (.ref bf), .val (.int q_), .val (.int a_), .val (.int b_), .val (.int c_), .val (.int (3 : Int32)), .unset, .unset] [(.ref rs)]) (own_Fin s (fun (v : Option Value) (h : Heap) (L : List Loc) => v = some (.int 1) ∧ Fr n0 L) 16 128) := by
  show own_Go p e below T0 (mkF m 273 #[.val (.int sh0), .val (.int pm0), .val (.int nd0), .val (.ref lp), .val (.int r_), .val (.int k_), .val (.ref pr), .val (.ref bf), .val (.int q_), .val (.int a_), .val (.int b_), .val (.int c_), .val (.int (3 : Int32)), .unset, .unset] [(.ref rs)]) _
  refine own_s_astore X0.here hx #[.val (.int sh0), .val (.int pm0), .val (.int nd0), .val (.ref lp), .val (.int r_), .val (.int k_), .val (.ref pr), .val (.ref bf), .val (.int q_), .val (.int a_), .val (.int b_), .val (.int c_), .val (.int (3 : Int32)), .val (.ref rs), .unset] (hb hby at_273) rfl rfl ?_
  refine own_s_aload X0.here hx (hb hby at_275) rfl rfl ?_
  refine own_by (fun tq_ kq_ => own_len X0 hx hZ e0 A_rs (z := (3 : Int32)) rfl (g := (mkF m 277 #[.val (.int sh0), .val (.int pm0), .val (.int nd0), .val (.ref lp), .val (.int r_), .val (.int k_), .val (.ref pr), .val (.ref bf), .val (.int q_), .val (.int a_), .val (.int b_), .val (.int c_), .val (.int (3 : Int32)), .val (.ref rs), .unset] [(.ref rs)])) rfl rfl (hb hby at_277) tq_ kq_) ?_
  show own_Go p e below T0 (mkF m 278 #[.val (.int sh0), .val (.int pm0), .val (.int nd0), .val (.ref lp), .val (.int r_), .val (.int k_), .val (.ref pr), .val (.ref bf), .val (.int q_), .val (.int a_), .val (.int b_), .val (.int c_), .val (.int (3 : Int32)), .val (.ref rs), .unset] [(.int (3 : Int32))]) _
  refine own_s_iload X0.here hx (hb hby at_278) rfl ?_
  refine own_s_icmpNo X0.here hx (hb hby at_280) (Jvm.Free.XT.ii_ne_f ((by decide))) ?_
  refine own_s_iconst X0.here hx (1 : Int32) (hb hby at_283) rfl ?_
  show own_Go p e below T0 (mkF m 284 #[.val (.int sh0), .val (.int pm0), .val (.int nd0), .val (.ref lp), .val (.int r_), .val (.int k_), .val (.ref pr), .val (.ref bf), .val (.int q_), .val (.int a_), .val (.int b_), .val (.int c_), .val (.int (3 : Int32)), .val (.ref rs), .unset] [(.int (1 : Int32))]) _
  refine own_s_goto X0.here hx 288 (hb hby at_284) (by decide) (by decide) ?_
  refine own_s_istore X0.here hx #[.val (.int sh0), .val (.int pm0), .val (.int nd0), .val (.ref lp), .val (.int r_), .val (.int k_), .val (.ref pr), .val (.ref bf), .val (.int q_), .val (.int a_), .val (.int b_), .val (.int c_), .val (.int (3 : Int32)), .val (.ref rs), .val (.int (1 : Int32))] (hb hby at_288) rfl ?_
  refine own_s_iload X0.here hx (hb hby at_290) rfl ?_
  refine own_s_ifNo X0.here hx (hb hby at_292) (Jvm.Free.XT.i0_eq_f ((by decide))) ?_
  refine own_s_aload X0.here hx (hb hby at_295) rfl rfl ?_
  refine own_s_iload X0.here hx (hb hby at_297) rfl ?_
  refine own_s_iconst X0.here hx (1 : Int32) (hb hby at_299) rfl ?_
  refine own_s_isub X0.here hx (hb hby at_300) ?_
  show own_Go p e below T0 (mkF m 301 #[.val (.int sh0), .val (.int pm0), .val (.int nd0), .val (.ref lp), .val (.int r_), .val (.int k_), .val (.ref pr), .val (.ref bf), .val (.int q_), .val (.int a_), .val (.int b_), .val (.int c_), .val (.int (3 : Int32)), .val (.ref rs), .val (.int (1 : Int32))] [(.int (2 : Int32)), (.ref rs)]) _
  refine own_by (fun tq_ kq_ => own_ldI X0 hx hZ e0 A_rs (k := 2) (v := (.int (own_f1 q_ r_ k_))) (by decide) (by decide) rfl (g := (mkF m 301 #[.val (.int sh0), .val (.int pm0), .val (.int nd0), .val (.ref lp), .val (.int r_), .val (.int k_), .val (.ref pr), .val (.ref bf), .val (.int q_), .val (.int a_), .val (.int b_), .val (.int c_), .val (.int (3 : Int32)), .val (.ref rs), .val (.int (1 : Int32))] [(.int (2 : Int32)), (.ref rs)])) rfl rfl (hb hby at_301) tq_ kq_) ?_
  show own_Go p e below T0 (mkF m 302 #[.val (.int sh0), .val (.int pm0), .val (.int nd0), .val (.ref lp), .val (.int r_), .val (.int k_), .val (.ref pr), .val (.ref bf), .val (.int q_), .val (.int a_), .val (.int b_), .val (.int c_), .val (.int (3 : Int32)), .val (.ref rs), .val (.int (1 : Int32))] [(.int (own_f1 q_ r_ k_))]) _
  refine own_s_iload X0.here hx (hb hby at_302) rfl ?_
  refine own_s_iload X0.here hx (hb hby at_304) rfl ?_
  refine own_s_iload X0.here hx (hb hby at_306) rfl ?_
  obtain ⟨_, _, ⟨T37, L37, k37, n37⟩, -, X37, ⟨Lc37, hQ37, l37, y37, z37⟩, st37⟩ := Jvm.LawKit.callS X0 hx (y := (⟨"com/example/geodesic/geodesic/graph/ShortestPathsWalkPinLaw", "s", "(III)I"⟩ : MethodName)) hown (mvT hZ (hw _ (List.mem_of_getElem? (i := 1) rfl))) (mvT hZ (hw _ (List.mem_of_getElem? (i := 2) rfl))) (mvT hZ (hw _ (List.mem_of_getElem? (i := 3) rfl))) (mvT hZ (hw _ (List.mem_of_getElem? (i := 4) rfl))) (by decide) (backOf (W := 1) (own_r1 l Z a0 hw [] q_ r_ k_  h0 n0 Z0 ) hZ (hw _ (List.mem_of_getElem? (i := 4) rfl)) (hw _ (List.mem_of_getElem? (i := 3) rfl)) (by decide) (by decide)) (g := (mkF m 308 #[.val (.int sh0), .val (.int pm0), .val (.int nd0), .val (.ref lp), .val (.int r_), .val (.int k_), .val (.ref pr), .val (.ref bf), .val (.int q_), .val (.int a_), .val (.int b_), .val (.int c_), .val (.int (3 : Int32)), .val (.ref rs), .val (.int (1 : Int32))] [(.int k_), (.int r_), (.int q_), (.int (own_f1 q_ r_ k_))])) rfl (by rw [hml]; rfl) (argsL := [(.int q_), (.int r_), (.int k_)]) (rest := [(.int (own_f1 q_ r_ k_))]) (lenOf own_pd_0 rfl) rfl (by show 2 * 0 + _ ≤ _; exact Nat.le_of_eq rfl) (hb hby at_308) (fun _ _ => ⟨rfl, e0, (by decide : 4 + 0 ≤ _), (by decide : 15 + 0 ≤ _)⟩)
  dsimp only [Pt.U, Pt.locs, Pt.cells, Pt.slots] at X37 l37 y37 z37 st37 hQ37
  subst l37 y37 z37
  obtain ⟨rfl, N37q, e37⟩ := hQ37
  have N37 := Fr.app N0 N37q
  refine own_by st37 ?_
  show own_Go p e below T37 (mkF m 311 #[.val (.int sh0), .val (.int pm0), .val (.int nd0), .val (.ref lp), .val (.int r_), .val (.int k_), .val (.ref pr), .val (.ref bf), .val (.int q_), .val (.int a_), .val (.int b_), .val (.int c_), .val (.int (3 : Int32)), .val (.ref rs), .val (.int (1 : Int32))] [(.int (own_f1 q_ r_ k_)), (.int (own_f1 q_ r_ k_))]) _
  refine own_s_icmpNo X37.here hx (hb hby at_311) (Jvm.Free.XT.ii_ne_f rfl) ?_
  refine own_s_iconst X37.here hx (1 : Int32) (hb hby at_314) rfl ?_
  show own_Go p e below T37 (mkF m 315 #[.val (.int sh0), .val (.int pm0), .val (.int nd0), .val (.ref lp), .val (.int r_), .val (.int k_), .val (.ref pr), .val (.ref bf), .val (.int q_), .val (.int a_), .val (.int b_), .val (.int c_), .val (.int (3 : Int32)), .val (.ref rs), .val (.int (1 : Int32))] [(.int (1 : Int32))]) _
  refine own_s_goto X37.here hx 319 (hb hby at_315) (by decide) (by decide) ?_
  refine own_s_istore X37.here hx #[.val (.int sh0), .val (.int pm0), .val (.int nd0), .val (.ref lp), .val (.int r_), .val (.int k_), .val (.ref pr), .val (.ref bf), .val (.int q_), .val (.int a_), .val (.int b_), .val (.int c_), .val (.int (3 : Int32)), .val (.ref rs), .val (.int (1 : Int32))] (hb hby at_319) rfl ?_
  refine own_s_iload X37.here hx (hb hby at_321) rfl ?_
  refine own_s_ifNo X37.here hx (hb hby at_323) (Jvm.Free.XT.i0_eq_f ((by decide))) ?_
  refine own_s_iload X37.here hx (hb hby at_326) rfl ?_
  refine own_s_iconst X37.here hx (2 : Int32) (hb hby at_328) rfl ?_
  refine own_s_icmpNo X37.here hx (hb hby at_329) (Jvm.Free.XT.ii_lt_f ((by decide))) ?_
  refine own_s_aload X37.here hx (hb hby at_332) rfl rfl ?_
  refine own_s_iload X37.here hx (hb hby at_334) rfl ?_
  refine own_s_iconst X37.here hx (2 : Int32) (hb hby at_336) rfl ?_
  refine own_s_isub X37.here hx (hb hby at_337) ?_
  show own_Go p e below T37 (mkF m 338 #[.val (.int sh0), .val (.int pm0), .val (.int nd0), .val (.ref lp), .val (.int r_), .val (.int k_), .val (.ref pr), .val (.ref bf), .val (.int q_), .val (.int a_), .val (.int b_), .val (.int c_), .val (.int (3 : Int32)), .val (.ref rs), .val (.int (1 : Int32))] [(.int (1 : Int32)), (.ref rs)]) _
  refine own_by (fun tq_ kq_ => own_ldI X37 hx hZ e37 A_rs (k := 1) (v := (.int (own_f1 a_ r_ k_))) (by decide) (by decide) rfl (g := (mkF m 338 #[.val (.int sh0), .val (.int pm0), .val (.int nd0), .val (.ref lp), .val (.int r_), .val (.int k_), .val (.ref pr), .val (.ref bf), .val (.int q_), .val (.int a_), .val (.int b_), .val (.int c_), .val (.int (3 : Int32)), .val (.ref rs), .val (.int (1 : Int32))] [(.int (1 : Int32)), (.ref rs)])) rfl rfl (hb hby at_338) tq_ kq_) ?_
  show own_Go p e below T37 (mkF m 339 #[.val (.int sh0), .val (.int pm0), .val (.int nd0), .val (.ref lp), .val (.int r_), .val (.int k_), .val (.ref pr), .val (.ref bf), .val (.int q_), .val (.int a_), .val (.int b_), .val (.int c_), .val (.int (3 : Int32)), .val (.ref rs), .val (.int (1 : Int32))] [(.int (own_f1 a_ r_ k_))]) _
  refine own_s_iload X37.here hx (hb hby at_339) rfl ?_
  refine own_s_iload X37.here hx (hb hby at_341) rfl ?_
  refine own_s_iload X37.here hx (hb hby at_343) rfl ?_
  obtain ⟨_, _, ⟨T38, L38, k38, n38⟩, -, X38, ⟨Lc38, hQ38, l38, y38, z38⟩, st38⟩ := Jvm.LawKit.callS X37 hx (y := (⟨"com/example/geodesic/geodesic/graph/ShortestPathsWalkPinLaw", "s", "(III)I"⟩ : MethodName)) hown (mvT hZ (hw _ (List.mem_of_getElem? (i := 1) rfl))) (mvT hZ (hw _ (List.mem_of_getElem? (i := 2) rfl))) (mvT hZ (hw _ (List.mem_of_getElem? (i := 3) rfl))) (mvT hZ (hw _ (List.mem_of_getElem? (i := 4) rfl))) (by decide) (backOf (W := 1) (own_r1 l Z a0 hw [] a_ r_ k_  h0 n0 Z0 ) hZ (hw _ (List.mem_of_getElem? (i := 4) rfl)) (hw _ (List.mem_of_getElem? (i := 3) rfl)) (by decide) (by decide)) (g := (mkF m 345 #[.val (.int sh0), .val (.int pm0), .val (.int nd0), .val (.ref lp), .val (.int r_), .val (.int k_), .val (.ref pr), .val (.ref bf), .val (.int q_), .val (.int a_), .val (.int b_), .val (.int c_), .val (.int (3 : Int32)), .val (.ref rs), .val (.int (1 : Int32))] [(.int k_), (.int r_), (.int a_), (.int (own_f1 a_ r_ k_))])) rfl (by rw [hml]; rfl) (argsL := [(.int a_), (.int r_), (.int k_)]) (rest := [(.int (own_f1 a_ r_ k_))]) (lenOf own_pd_0 rfl) rfl (by show 2 * 0 + _ ≤ _; exact Nat.le_of_eq rfl) (hb hby at_345) (fun _ _ => ⟨rfl, e37, (by decide : 4 + 0 ≤ _), (by decide : 15 + 0 ≤ _)⟩)
  dsimp only [Pt.U, Pt.locs, Pt.cells, Pt.slots] at X38 l38 y38 z38 st38 hQ38
  subst l38 y38 z38
  obtain ⟨rfl, N38q, e38⟩ := hQ38
  have N38 := Fr.app N37 N38q
  refine own_by st38 ?_
  show own_Go p e below T38 (mkF m 348 #[.val (.int sh0), .val (.int pm0), .val (.int nd0), .val (.ref lp), .val (.int r_), .val (.int k_), .val (.ref pr), .val (.ref bf), .val (.int q_), .val (.int a_), .val (.int b_), .val (.int c_), .val (.int (3 : Int32)), .val (.ref rs), .val (.int (1 : Int32))] [(.int (own_f1 a_ r_ k_)), (.int (own_f1 a_ r_ k_))]) _
  refine own_s_icmpNo X38.here hx (hb hby at_348) (Jvm.Free.XT.ii_ne_f rfl) ?_
  refine own_s_iconst X38.here hx (1 : Int32) (hb hby at_351) rfl ?_
  show own_Go p e below T38 (mkF m 352 #[.val (.int sh0), .val (.int pm0), .val (.int nd0), .val (.ref lp), .val (.int r_), .val (.int k_), .val (.ref pr), .val (.ref bf), .val (.int q_), .val (.int a_), .val (.int b_), .val (.int c_), .val (.int (3 : Int32)), .val (.ref rs), .val (.int (1 : Int32))] [(.int (1 : Int32))]) _
  refine own_s_goto X38.here hx 356 (hb hby at_352) (by decide) (by decide) ?_
  refine own_s_istore X38.here hx #[.val (.int sh0), .val (.int pm0), .val (.int nd0), .val (.ref lp), .val (.int r_), .val (.int k_), .val (.ref pr), .val (.ref bf), .val (.int q_), .val (.int a_), .val (.int b_), .val (.int c_), .val (.int (3 : Int32)), .val (.ref rs), .val (.int (1 : Int32))] (hb hby at_356) rfl ?_
  refine own_s_iload X38.here hx (hb hby at_358) rfl ?_
  refine own_s_ifNo X38.here hx (hb hby at_360) (Jvm.Free.XT.i0_eq_f ((by decide))) ?_
  refine own_s_iload X38.here hx (hb hby at_363) rfl ?_
  refine own_s_iconst X38.here hx (3 : Int32) (hb hby at_365) rfl ?_
  refine own_s_icmpNo X38.here hx (hb hby at_366) (Jvm.Free.XT.ii_lt_f ((by decide))) ?_
  refine own_s_aload X38.here hx (hb hby at_369) rfl rfl ?_
  refine own_s_iload X38.here hx (hb hby at_371) rfl ?_
  refine own_s_iconst X38.here hx (3 : Int32) (hb hby at_373) rfl ?_
  refine own_s_isub X38.here hx (hb hby at_374) ?_
  show own_Go p e below T38 (mkF m 375 #[.val (.int sh0), .val (.int pm0), .val (.int nd0), .val (.ref lp), .val (.int r_), .val (.int k_), .val (.ref pr), .val (.ref bf), .val (.int q_), .val (.int a_), .val (.int b_), .val (.int c_), .val (.int (3 : Int32)), .val (.ref rs), .val (.int (1 : Int32))] [(.int (0 : Int32)), (.ref rs)]) _
  refine own_by (fun tq_ kq_ => own_ldI X38 hx hZ e38 A_rs (k := 0) (v := (.int (own_f1 b_ r_ k_))) (by decide) (by decide) rfl (g := (mkF m 375 #[.val (.int sh0), .val (.int pm0), .val (.int nd0), .val (.ref lp), .val (.int r_), .val (.int k_), .val (.ref pr), .val (.ref bf), .val (.int q_), .val (.int a_), .val (.int b_), .val (.int c_), .val (.int (3 : Int32)), .val (.ref rs), .val (.int (1 : Int32))] [(.int (0 : Int32)), (.ref rs)])) rfl rfl (hb hby at_375) tq_ kq_) ?_
  show own_Go p e below T38 (mkF m 376 #[.val (.int sh0), .val (.int pm0), .val (.int nd0), .val (.ref lp), .val (.int r_), .val (.int k_), .val (.ref pr), .val (.ref bf), .val (.int q_), .val (.int a_), .val (.int b_), .val (.int c_), .val (.int (3 : Int32)), .val (.ref rs), .val (.int (1 : Int32))] [(.int (own_f1 b_ r_ k_))]) _
  refine own_s_iload X38.here hx (hb hby at_376) rfl ?_
  refine own_s_iload X38.here hx (hb hby at_378) rfl ?_
  refine own_s_iload X38.here hx (hb hby at_380) rfl ?_
  obtain ⟨_, _, ⟨T39, L39, k39, n39⟩, -, X39, ⟨Lc39, hQ39, l39, y39, z39⟩, st39⟩ := Jvm.LawKit.callS X38 hx (y := (⟨"com/example/geodesic/geodesic/graph/ShortestPathsWalkPinLaw", "s", "(III)I"⟩ : MethodName)) hown (mvT hZ (hw _ (List.mem_of_getElem? (i := 1) rfl))) (mvT hZ (hw _ (List.mem_of_getElem? (i := 2) rfl))) (mvT hZ (hw _ (List.mem_of_getElem? (i := 3) rfl))) (mvT hZ (hw _ (List.mem_of_getElem? (i := 4) rfl))) (by decide) (backOf (W := 1) (own_r1 l Z a0 hw [] b_ r_ k_  h0 n0 Z0 ) hZ (hw _ (List.mem_of_getElem? (i := 4) rfl)) (hw _ (List.mem_of_getElem? (i := 3) rfl)) (by decide) (by decide)) (g := (mkF m 382 #[.val (.int sh0), .val (.int pm0), .val (.int nd0), .val (.ref lp), .val (.int r_), .val (.int k_), .val (.ref pr), .val (.ref bf), .val (.int q_), .val (.int a_), .val (.int b_), .val (.int c_), .val (.int (3 : Int32)), .val (.ref rs), .val (.int (1 : Int32))] [(.int k_), (.int r_), (.int b_), (.int (own_f1 b_ r_ k_))])) rfl (by rw [hml]; rfl) (argsL := [(.int b_), (.int r_), (.int k_)]) (rest := [(.int (own_f1 b_ r_ k_))]) (lenOf own_pd_0 rfl) rfl (by show 2 * 0 + _ ≤ _; exact Nat.le_of_eq rfl) (hb hby at_382) (fun _ _ => ⟨rfl, e38, (by decide : 4 + 0 ≤ _), (by decide : 15 + 0 ≤ _)⟩)
  dsimp only [Pt.U, Pt.locs, Pt.cells, Pt.slots] at X39 l39 y39 z39 st39 hQ39
  subst l39 y39 z39
  obtain ⟨rfl, N39q, e39⟩ := hQ39
  have N39 := Fr.app N38 N39q
  refine own_by st39 ?_
  show own_Go p e below T39 (mkF m 385 #[.val (.int sh0), .val (.int pm0), .val (.int nd0), .val (.ref lp), .val (.int r_), .val (.int k_), .val (.ref pr), .val (.ref bf), .val (.int q_), .val (.int a_), .val (.int b_), .val (.int c_), .val (.int (3 : Int32)), .val (.ref rs), .val (.int (1 : Int32))] [(.int (own_f1 b_ r_ k_)), (.int (own_f1 b_ r_ k_))]) _
  refine own_s_icmpNo X39.here hx (hb hby at_385) (Jvm.Free.XT.ii_ne_f rfl) ?_
  refine own_s_iconst X39.here hx (1 : Int32) (hb hby at_388) rfl ?_
  show own_Go p e below T39 (mkF m 389 #[.val (.int sh0), .val (.int pm0), .val (.int nd0), .val (.ref lp), .val (.int r_), .val (.int k_), .val (.ref pr), .val (.ref bf), .val (.int q_), .val (.int a_), .val (.int b_), .val (.int c_), .val (.int (3 : Int32)), .val (.ref rs), .val (.int (1 : Int32))] [(.int (1 : Int32))]) _
  refine own_s_goto X39.here hx 393 (hb hby at_389) (by decide) (by decide) ?_
  refine own_s_istore X39.here hx #[.val (.int sh0), .val (.int pm0), .val (.int nd0), .val (.ref lp), .val (.int r_), .val (.int k_), .val (.ref pr), .val (.ref bf), .val (.int q_), .val (.int a_), .val (.int b_), .val (.int c_), .val (.int (3 : Int32)), .val (.ref rs), .val (.int (1 : Int32))] (hb hby at_393) rfl ?_
  refine own_s_iload X39.here hx (hb hby at_395) rfl ?_
  refine own_s_ifNo X39.here hx (hb hby at_397) (Jvm.Free.XT.i0_eq_f ((by decide))) ?_
  refine own_s_iload X39.here hx (hb hby at_400) rfl ?_
  refine own_s_iconst X39.here hx (4 : Int32) (hb hby at_402) rfl ?_
  show own_Go p e below T39 (mkF m 403 #[.val (.int sh0), .val (.int pm0), .val (.int nd0), .val (.ref lp), .val (.int r_), .val (.int k_), .val (.ref pr), .val (.ref bf), .val (.int q_), .val (.int a_), .val (.int b_), .val (.int c_), .val (.int (3 : Int32)), .val (.ref rs), .val (.int (1 : Int32))] [(.int (4 : Int32)), (.int (3 : Int32))]) _
  refine own_s_icmpYes X39.here hx 432 (hb hby at_403) (Jvm.Free.XT.ii_lt_t ((by decide))) (by decide) (by decide) ?_
  refine own_s_iload X39.here hx (hb hby at_432) rfl ?_
  refine own_s_ifNo X39.here hx (hb hby at_434) (Jvm.Free.XT.i0_eq_f ((by decide))) ?_
  refine own_s_aload X39.here hx (hb hby at_437) rfl rfl ?_
  refine own_s_iconst X39.here hx (0 : Int32) (hb hby at_439) rfl ?_
  refine own_by (fun tq_ kq_ => own_ldI X39 hx hZ e39 A_pr (k := 0) (v := (.int ((own_pf s0 s1 s2 s3 v0 v1 v2 v3) 0))) (by decide) (by decide) rfl (g := (mkF m 440 #[.val (.int sh0), .val (.int pm0), .val (.int nd0), .val (.ref lp), .val (.int r_), .val (.int k_), .val (.ref pr), .val (.ref bf), .val (.int q_), .val (.int a_), .val (.int b_), .val (.int c_), .val (.int (3 : Int32)), .val (.ref rs), .val (.int (1 : Int32))] [(.int (0 : Int32)), (.ref pr)])) rfl rfl (hb hby at_440) tq_ kq_) ?_
  show own_Go p e below T39 (mkF m 441 #[.val (.int sh0), .val (.int pm0), .val (.int nd0), .val (.ref lp), .val (.int r_), .val (.int k_), .val (.ref pr), .val (.ref bf), .val (.int q_), .val (.int a_), .val (.int b_), .val (.int c_), .val (.int (3 : Int32)), .val (.ref rs), .val (.int (1 : Int32))] [(.int ((own_pf s0 s1 s2 s3 v0 v1 v2 v3) 0))]) _
  refine own_s_aload X39.here hx (hb hby at_441) rfl rfl ?_
  refine own_s_iconst X39.here hx (0 : Int32) (hb hby at_443) rfl ?_
  refine own_by (fun tq_ kq_ => own_ldI X39 hx hZ e39 A_bf (k := 0) (v := (.int ((own_pf s0 s1 s2 s3 v0 v1 v2 v3) 0))) (by decide) (by decide) rfl (g := (mkF m 444 #[.val (.int sh0), .val (.int pm0), .val (.int nd0), .val (.ref lp), .val (.int r_), .val (.int k_), .val (.ref pr), .val (.ref bf), .val (.int q_), .val (.int a_), .val (.int b_), .val (.int c_), .val (.int (3 : Int32)), .val (.ref rs), .val (.int (1 : Int32))] [(.int (0 : Int32)), (.ref bf), (.int ((own_pf s0 s1 s2 s3 v0 v1 v2 v3) 0))])) rfl rfl (hb hby at_444) tq_ kq_) ?_
  show own_Go p e below T39 (mkF m 445 #[.val (.int sh0), .val (.int pm0), .val (.int nd0), .val (.ref lp), .val (.int r_), .val (.int k_), .val (.ref pr), .val (.ref bf), .val (.int q_), .val (.int a_), .val (.int b_), .val (.int c_), .val (.int (3 : Int32)), .val (.ref rs), .val (.int (1 : Int32))] [(.int ((own_pf s0 s1 s2 s3 v0 v1 v2 v3) 0)), (.int ((own_pf s0 s1 s2 s3 v0 v1 v2 v3) 0))]) _
  refine own_s_icmpNo X39.here hx (hb hby at_445) (Jvm.Free.XT.ii_ne_f rfl) ?_
  refine own_s_aload X39.here hx (hb hby at_448) rfl rfl ?_
  refine own_s_iconst X39.here hx (1 : Int32) (hb hby at_450) rfl ?_
  refine own_by (fun tq_ kq_ => own_ldI X39 hx hZ e39 A_pr (k := 1) (v := (.int ((own_pf s0 s1 s2 s3 v0 v1 v2 v3) 1))) (by decide) (by decide) rfl (g := (mkF m 451 #[.val (.int sh0), .val (.int pm0), .val (.int nd0), .val (.ref lp), .val (.int r_), .val (.int k_), .val (.ref pr), .val (.ref bf), .val (.int q_), .val (.int a_), .val (.int b_), .val (.int c_), .val (.int (3 : Int32)), .val (.ref rs), .val (.int (1 : Int32))] [(.int (1 : Int32)), (.ref pr)])) rfl rfl (hb hby at_451) tq_ kq_) ?_
  show own_Go p e below T39 (mkF m 452 #[.val (.int sh0), .val (.int pm0), .val (.int nd0), .val (.ref lp), .val (.int r_), .val (.int k_), .val (.ref pr), .val (.ref bf), .val (.int q_), .val (.int a_), .val (.int b_), .val (.int c_), .val (.int (3 : Int32)), .val (.ref rs), .val (.int (1 : Int32))] [(.int ((own_pf s0 s1 s2 s3 v0 v1 v2 v3) 1))]) _
  refine own_s_aload X39.here hx (hb hby at_452) rfl rfl ?_
  refine own_s_iconst X39.here hx (1 : Int32) (hb hby at_454) rfl ?_
  refine own_by (fun tq_ kq_ => own_ldI X39 hx hZ e39 A_bf (k := 1) (v := (.int ((own_pf s0 s1 s2 s3 v0 v1 v2 v3) 1))) (by decide) (by decide) rfl (g := (mkF m 455 #[.val (.int sh0), .val (.int pm0), .val (.int nd0), .val (.ref lp), .val (.int r_), .val (.int k_), .val (.ref pr), .val (.ref bf), .val (.int q_), .val (.int a_), .val (.int b_), .val (.int c_), .val (.int (3 : Int32)), .val (.ref rs), .val (.int (1 : Int32))] [(.int (1 : Int32)), (.ref bf), (.int ((own_pf s0 s1 s2 s3 v0 v1 v2 v3) 1))])) rfl rfl (hb hby at_455) tq_ kq_) ?_
  show own_Go p e below T39 (mkF m 456 #[.val (.int sh0), .val (.int pm0), .val (.int nd0), .val (.ref lp), .val (.int r_), .val (.int k_), .val (.ref pr), .val (.ref bf), .val (.int q_), .val (.int a_), .val (.int b_), .val (.int c_), .val (.int (3 : Int32)), .val (.ref rs), .val (.int (1 : Int32))] [(.int ((own_pf s0 s1 s2 s3 v0 v1 v2 v3) 1)), (.int ((own_pf s0 s1 s2 s3 v0 v1 v2 v3) 1))]) _
  refine own_s_icmpNo X39.here hx (hb hby at_456) (Jvm.Free.XT.ii_ne_f rfl) ?_
  refine own_s_aload X39.here hx (hb hby at_459) rfl rfl ?_
  refine own_s_iconst X39.here hx (2 : Int32) (hb hby at_461) rfl ?_
  refine own_by (fun tq_ kq_ => own_ldI X39 hx hZ e39 A_pr (k := 2) (v := (.int ((own_pf s0 s1 s2 s3 v0 v1 v2 v3) 2))) (by decide) (by decide) rfl (g := (mkF m 462 #[.val (.int sh0), .val (.int pm0), .val (.int nd0), .val (.ref lp), .val (.int r_), .val (.int k_), .val (.ref pr), .val (.ref bf), .val (.int q_), .val (.int a_), .val (.int b_), .val (.int c_), .val (.int (3 : Int32)), .val (.ref rs), .val (.int (1 : Int32))] [(.int (2 : Int32)), (.ref pr)])) rfl rfl (hb hby at_462) tq_ kq_) ?_
  show own_Go p e below T39 (mkF m 463 #[.val (.int sh0), .val (.int pm0), .val (.int nd0), .val (.ref lp), .val (.int r_), .val (.int k_), .val (.ref pr), .val (.ref bf), .val (.int q_), .val (.int a_), .val (.int b_), .val (.int c_), .val (.int (3 : Int32)), .val (.ref rs), .val (.int (1 : Int32))] [(.int ((own_pf s0 s1 s2 s3 v0 v1 v2 v3) 2))]) _
  refine own_s_aload X39.here hx (hb hby at_463) rfl rfl ?_
  refine own_s_iconst X39.here hx (2 : Int32) (hb hby at_465) rfl ?_
  refine own_by (fun tq_ kq_ => own_ldI X39 hx hZ e39 A_bf (k := 2) (v := (.int ((own_pf s0 s1 s2 s3 v0 v1 v2 v3) 2))) (by decide) (by decide) rfl (g := (mkF m 466 #[.val (.int sh0), .val (.int pm0), .val (.int nd0), .val (.ref lp), .val (.int r_), .val (.int k_), .val (.ref pr), .val (.ref bf), .val (.int q_), .val (.int a_), .val (.int b_), .val (.int c_), .val (.int (3 : Int32)), .val (.ref rs), .val (.int (1 : Int32))] [(.int (2 : Int32)), (.ref bf), (.int ((own_pf s0 s1 s2 s3 v0 v1 v2 v3) 2))])) rfl rfl (hb hby at_466) tq_ kq_) ?_
  show own_Go p e below T39 (mkF m 467 #[.val (.int sh0), .val (.int pm0), .val (.int nd0), .val (.ref lp), .val (.int r_), .val (.int k_), .val (.ref pr), .val (.ref bf), .val (.int q_), .val (.int a_), .val (.int b_), .val (.int c_), .val (.int (3 : Int32)), .val (.ref rs), .val (.int (1 : Int32))] [(.int ((own_pf s0 s1 s2 s3 v0 v1 v2 v3) 2)), (.int ((own_pf s0 s1 s2 s3 v0 v1 v2 v3) 2))]) _
  refine own_s_icmpNo X39.here hx (hb hby at_467) (Jvm.Free.XT.ii_ne_f rfl) ?_
  refine own_s_aload X39.here hx (hb hby at_470) rfl rfl ?_
  refine own_s_iconst X39.here hx (3 : Int32) (hb hby at_472) rfl ?_
  refine own_by (fun tq_ kq_ => own_ldI X39 hx hZ e39 A_pr (k := 3) (v := (.int ((own_pf s0 s1 s2 s3 v0 v1 v2 v3) 3))) (by decide) (by decide) rfl (g := (mkF m 473 #[.val (.int sh0), .val (.int pm0), .val (.int nd0), .val (.ref lp), .val (.int r_), .val (.int k_), .val (.ref pr), .val (.ref bf), .val (.int q_), .val (.int a_), .val (.int b_), .val (.int c_), .val (.int (3 : Int32)), .val (.ref rs), .val (.int (1 : Int32))] [(.int (3 : Int32)), (.ref pr)])) rfl rfl (hb hby at_473) tq_ kq_) ?_
  show own_Go p e below T39 (mkF m 474 #[.val (.int sh0), .val (.int pm0), .val (.int nd0), .val (.ref lp), .val (.int r_), .val (.int k_), .val (.ref pr), .val (.ref bf), .val (.int q_), .val (.int a_), .val (.int b_), .val (.int c_), .val (.int (3 : Int32)), .val (.ref rs), .val (.int (1 : Int32))] [(.int ((own_pf s0 s1 s2 s3 v0 v1 v2 v3) 3))]) _
  refine own_s_aload X39.here hx (hb hby at_474) rfl rfl ?_
  refine own_s_iconst X39.here hx (3 : Int32) (hb hby at_476) rfl ?_
  refine own_by (fun tq_ kq_ => own_ldI X39 hx hZ e39 A_bf (k := 3) (v := (.int ((own_pf s0 s1 s2 s3 v0 v1 v2 v3) 3))) (by decide) (by decide) rfl (g := (mkF m 477 #[.val (.int sh0), .val (.int pm0), .val (.int nd0), .val (.ref lp), .val (.int r_), .val (.int k_), .val (.ref pr), .val (.ref bf), .val (.int q_), .val (.int a_), .val (.int b_), .val (.int c_), .val (.int (3 : Int32)), .val (.ref rs), .val (.int (1 : Int32))] [(.int (3 : Int32)), (.ref bf), (.int ((own_pf s0 s1 s2 s3 v0 v1 v2 v3) 3))])) rfl rfl (hb hby at_477) tq_ kq_) ?_
  show own_Go p e below T39 (mkF m 478 #[.val (.int sh0), .val (.int pm0), .val (.int nd0), .val (.ref lp), .val (.int r_), .val (.int k_), .val (.ref pr), .val (.ref bf), .val (.int q_), .val (.int a_), .val (.int b_), .val (.int c_), .val (.int (3 : Int32)), .val (.ref rs), .val (.int (1 : Int32))] [(.int ((own_pf s0 s1 s2 s3 v0 v1 v2 v3) 3)), (.int ((own_pf s0 s1 s2 s3 v0 v1 v2 v3) 3))]) _
  refine own_s_icmpNo X39.here hx (hb hby at_478) (Jvm.Free.XT.ii_ne_f rfl) ?_
  refine own_s_iconst X39.here hx (1 : Int32) (hb hby at_481) rfl ?_
  show own_Go p e below T39 (mkF m 482 #[.val (.int sh0), .val (.int pm0), .val (.int nd0), .val (.ref lp), .val (.int r_), .val (.int k_), .val (.ref pr), .val (.ref bf), .val (.int q_), .val (.int a_), .val (.int b_), .val (.int c_), .val (.int (3 : Int32)), .val (.ref rs), .val (.int (1 : Int32))] [(.int (1 : Int32))]) _
  refine own_s_goto X39.here hx 486 (hb hby at_482) (by decide) (by decide) ?_
  refine own_s_istore X39.here hx #[.val (.int sh0), .val (.int pm0), .val (.int nd0), .val (.ref lp), .val (.int r_), .val (.int k_), .val (.ref pr), .val (.ref bf), .val (.int q_), .val (.int a_), .val (.int b_), .val (.int c_), .val (.int (3 : Int32)), .val (.ref rs), .val (.int (1 : Int32))] (hb hby at_486) rfl ?_
  refine own_s_iload X39.here hx (hb hby at_488) rfl ?_
  refine own_retZ X39 hx hret hlk (hb hby at_490) rfl (by decide) (by decide) ?_
  exact ⟨rfl, N39⟩
set_option maxRecDepth 65536 in
set_option maxHeartbeats 40000000 in
theorem own_t4 {p : Program} {l : Launch} {e : Env} {s : State} {m : MethodId} {args : Array Value} {below : List Frame} {meth : Method} {c : Code} {Z : State} {a0 : Array Value} {n0 : Nat} (hx : p.tables.exec = Jvm.exec) (hZ : Z.Warmed39 s.vm) (hw : ∀ d ∈ tables_1, d.before a0 Z = true) (hby : c.code = code) (hml : c.maxLocals = 15) (hown : s.vm.findClass "com/example/geodesic/geodesic/graph/ShortestPathsWalkPinLaw" = some m.cls) (hnm : meth.name = "law") (hret : meth.sig.returnType = (some .boolean)) (hlk : meth.locks = false) (sh0 pm0 nd0 r_ k_ q_ a_ b_ c_ v0 v1 v2 v3 : Int32) (lp pr bf rs : Addr) (s0 s1 s2 s3 : Nat) {T0 : State} {locs : List Loc} {h0 : Heap} (X0 : Stand p l e room_1 s m args below meth c T0 locs 4 16) (e0 : T0.heap = h0) (N0 : Fr n0 locs) (Z0 : n0 ≤ h0.size) (A_pr : own_Av Z h0 pr .int 4 (fun i => .int ((own_pf s0 s1 s2 s3 v0 v1 v2 v3) i))) (A_bf : own_Av Z h0 bf .int 4 (own_upd (own_upd (own_upd (own_upd (fun _ => (.int (0 : Int32))) 0 (.int ((own_pf s0 s1 s2 s3 v0 v1 v2 v3) 0))) 1 (.int ((own_pf s0 s1 s2 s3 v0 v1 v2 v3) 1))) 2 (.int ((own_pf s0 s1 s2 s3 v0 v1 v2 v3) 2))) 3 (.int ((own_pf s0 s1 s2 s3 v0 v1 v2 v3) 3)))) (A_rs : own_Av Z h0 rs .int 4 (own_upd (own_upd (own_upd (own_upd (fun _ => (.int (0 : Int32))) 3 (.int (own_f1 q_ r_ k_))) 2 (.int (own_f1 a_ r_ k_))) 1 (.int (own_f1 b_ r_ k_))) 0 (.int (own_f1 c_ r_ k_)))) :
    own_Go p e below T0 (mkF m 273 #[.val (.int sh0), .val (.int pm0), .val (.int nd0), .val (.ref lp), .val (.int r_), .val (.int k_), .val (.ref pr), .val (.ref bf), .val (.int q_), .val (.int a_), .val (.int b_), .val (.int c_), .val (.int (4 : Int32)), .unset, .unset] [(.ref rs)]) (own_Fin s (fun (v : Option Value) (h : Heap) (L : List Loc) => v = some (.int 1) ∧ Fr n0 L) 16 128) := by
  show own_Go p e below T0 (mkF m 273 #[.val (.int sh0), .val (.int pm0), .val (.int nd0), .val (.ref lp), .val (.int r_), .val (.int k_), .val (.ref pr), .val (.ref bf), .val (.int q_), .val (.int a_), .val (.int b_), .val (.int c_), .val (.int (4 : Int32)), .unset, .unset] [(.ref rs)]) _
  refine own_s_astore X0.here hx #[.val (.int sh0), .val (.int pm0), .val (.int nd0), .val (.ref lp), .val (.int r_), .val (.int k_), .val (.ref pr), .val (.ref bf), .val (.int q_), .val (.int a_), .val (.int b_), .val (.int c_), .val (.int (4 : Int32)), .val (.ref rs), .unset] (hb hby at_273) rfl rfl ?_
  refine own_s_aload X0.here hx (hb hby at_275) rfl rfl ?_
  refine own_by (fun tq_ kq_ => own_len X0 hx hZ e0 A_rs (z := (4 : Int32)) rfl (g := (mkF m 277 #[.val (.int sh0), .val (.int pm0), .val (.int nd0), .val (.ref lp), .val (.int r_), .val (.int k_), .val (.ref pr), .val (.ref bf), .val (.int q_), .val (.int a_), .val (.int b_), .val (.int c_), .val (.int (4 : Int32)), .val (.ref rs), .unset] [(.ref rs)])) rfl rfl (hb hby at_277) tq_ kq_) ?_
  show own_Go p e below T0 (mkF m 278 #[.val (.int sh0), .val (.int pm0), .val (.int nd0), .val (.ref lp), .val (.int r_), .val (.int k_), .val (.ref pr), .val (.ref bf), .val (.int q_), .val (.int a_), .val (.int b_), .val (.int c_), .val (.int (4 : Int32)), .val (.ref rs), .unset] [(.int (4 : Int32))]) _
  refine own_s_iload X0.here hx (hb hby at_278) rfl ?_
  refine own_s_icmpNo X0.here hx (hb hby at_280) (Jvm.Free.XT.ii_ne_f ((by decide))) ?_
  refine own_s_iconst X0.here hx (1 : Int32) (hb hby at_283) rfl ?_
  show own_Go p e below T0 (mkF m 284 #[.val (.int sh0), .val (.int pm0), .val (.int nd0), .val (.ref lp), .val (.int r_), .val (.int k_), .val (.ref pr), .val (.ref bf), .val (.int q_), .val (.int a_), .val (.int b_), .val (.int c_), .val (.int (4 : Int32)), .val (.ref rs), .unset] [(.int (1 : Int32))]) _
  refine own_s_goto X0.here hx 288 (hb hby at_284) (by decide) (by decide) ?_
  refine own_s_istore X0.here hx #[.val (.int sh0), .val (.int pm0), .val (.int nd0), .val (.ref lp), .val (.int r_), .val (.int k_), .val (.ref pr), .val (.ref bf), .val (.int q_), .val (.int a_), .val (.int b_), .val (.int c_), .val (.int (4 : Int32)), .val (.ref rs), .val (.int (1 : Int32))] (hb hby at_288) rfl ?_
  refine own_s_iload X0.here hx (hb hby at_290) rfl ?_
  refine own_s_ifNo X0.here hx (hb hby at_292) (Jvm.Free.XT.i0_eq_f ((by decide))) ?_
  refine own_s_aload X0.here hx (hb hby at_295) rfl rfl ?_
  refine own_s_iload X0.here hx (hb hby at_297) rfl ?_
  refine own_s_iconst X0.here hx (1 : Int32) (hb hby at_299) rfl ?_
  refine own_s_isub X0.here hx (hb hby at_300) ?_
  show own_Go p e below T0 (mkF m 301 #[.val (.int sh0), .val (.int pm0), .val (.int nd0), .val (.ref lp), .val (.int r_), .val (.int k_), .val (.ref pr), .val (.ref bf), .val (.int q_), .val (.int a_), .val (.int b_), .val (.int c_), .val (.int (4 : Int32)), .val (.ref rs), .val (.int (1 : Int32))] [(.int (3 : Int32)), (.ref rs)]) _
  refine own_by (fun tq_ kq_ => own_ldI X0 hx hZ e0 A_rs (k := 3) (v := (.int (own_f1 q_ r_ k_))) (by decide) (by decide) rfl (g := (mkF m 301 #[.val (.int sh0), .val (.int pm0), .val (.int nd0), .val (.ref lp), .val (.int r_), .val (.int k_), .val (.ref pr), .val (.ref bf), .val (.int q_), .val (.int a_), .val (.int b_), .val (.int c_), .val (.int (4 : Int32)), .val (.ref rs), .val (.int (1 : Int32))] [(.int (3 : Int32)), (.ref rs)])) rfl rfl (hb hby at_301) tq_ kq_) ?_
  show own_Go p e below T0 (mkF m 302 #[.val (.int sh0), .val (.int pm0), .val (.int nd0), .val (.ref lp), .val (.int r_), .val (.int k_), .val (.ref pr), .val (.ref bf), .val (.int q_), .val (.int a_), .val (.int b_), .val (.int c_), .val (.int (4 : Int32)), .val (.ref rs), .val (.int (1 : Int32))] [(.int (own_f1 q_ r_ k_))]) _
  refine own_s_iload X0.here hx (hb hby at_302) rfl ?_
  refine own_s_iload X0.here hx (hb hby at_304) rfl ?_
  refine own_s_iload X0.here hx (hb hby at_306) rfl ?_
  obtain ⟨_, _, ⟨T40, L40, k40, n40⟩, -, X40, ⟨Lc40, hQ40, l40, y40, z40⟩, st40⟩ := Jvm.LawKit.callS X0 hx (y := (⟨"com/example/geodesic/geodesic/graph/ShortestPathsWalkPinLaw", "s", "(III)I"⟩ : MethodName)) hown (mvT hZ (hw _ (List.mem_of_getElem? (i := 1) rfl))) (mvT hZ (hw _ (List.mem_of_getElem? (i := 2) rfl))) (mvT hZ (hw _ (List.mem_of_getElem? (i := 3) rfl))) (mvT hZ (hw _ (List.mem_of_getElem? (i := 4) rfl))) (by decide) (backOf (W := 1) (own_r1 l Z a0 hw [] q_ r_ k_  h0 n0 Z0 ) hZ (hw _ (List.mem_of_getElem? (i := 4) rfl)) (hw _ (List.mem_of_getElem? (i := 3) rfl)) (by decide) (by decide)) (g := (mkF m 308 #[.val (.int sh0), .val (.int pm0), .val (.int nd0), .val (.ref lp), .val (.int r_), .val (.int k_), .val (.ref pr), .val (.ref bf), .val (.int q_), .val (.int a_), .val (.int b_), .val (.int c_), .val (.int (4 : Int32)), .val (.ref rs), .val (.int (1 : Int32))] [(.int k_), (.int r_), (.int q_), (.int (own_f1 q_ r_ k_))])) rfl (by rw [hml]; rfl) (argsL := [(.int q_), (.int r_), (.int k_)]) (rest := [(.int (own_f1 q_ r_ k_))]) (lenOf own_pd_0 rfl) rfl (by show 2 * 0 + _ ≤ _; exact Nat.le_of_eq rfl) (hb hby at_308) (fun _ _ => ⟨rfl, e0, (by decide : 4 + 0 ≤ _), (by decide : 16 + 0 ≤ _)⟩)
  dsimp only [Pt.U, Pt.locs, Pt.cells, Pt.slots] at X40 l40 y40 z40 st40 hQ40
  subst l40 y40 z40
  obtain ⟨rfl, N40q, e40⟩ := hQ40
  have N40 := Fr.app N0 N40q
  refine own_by st40 ?_
  show own_Go p e below T40 (mkF m 311 #[.val (.int sh0), .val (.int pm0), .val (.int nd0), .val (.ref lp), .val (.int r_), .val (.int k_), .val (.ref pr), .val (.ref bf), .val (.int q_), .val (.int a_), .val (.int b_), .val (.int c_), .val (.int (4 : Int32)), .val (.ref rs), .val (.int (1 : Int32))] [(.int (own_f1 q_ r_ k_)), (.int (own_f1 q_ r_ k_))]) _
  refine own_s_icmpNo X40.here hx (hb hby at_311) (Jvm.Free.XT.ii_ne_f rfl) ?_
  refine own_s_iconst X40.here hx (1 : Int32) (hb hby at_314) rfl ?_
  show own_Go p e below T40 (mkF m 315 #[.val (.int sh0), .val (.int pm0), .val (.int nd0), .val (.ref lp), .val (.int r_), .val (.int k_), .val (.ref pr), .val (.ref bf), .val (.int q_), .val (.int a_), .val (.int b_), .val (.int c_), .val (.int (4 : Int32)), .val (.ref rs), .val (.int (1 : Int32))] [(.int (1 : Int32))]) _
  refine own_s_goto X40.here hx 319 (hb hby at_315) (by decide) (by decide) ?_
  refine own_s_istore X40.here hx #[.val (.int sh0), .val (.int pm0), .val (.int nd0), .val (.ref lp), .val (.int r_), .val (.int k_), .val (.ref pr), .val (.ref bf), .val (.int q_), .val (.int a_), .val (.int b_), .val (.int c_), .val (.int (4 : Int32)), .val (.ref rs), .val (.int (1 : Int32))] (hb hby at_319) rfl ?_
  refine own_s_iload X40.here hx (hb hby at_321) rfl ?_
  refine own_s_ifNo X40.here hx (hb hby at_323) (Jvm.Free.XT.i0_eq_f ((by decide))) ?_
  refine own_s_iload X40.here hx (hb hby at_326) rfl ?_
  refine own_s_iconst X40.here hx (2 : Int32) (hb hby at_328) rfl ?_
  refine own_s_icmpNo X40.here hx (hb hby at_329) (Jvm.Free.XT.ii_lt_f ((by decide))) ?_
  refine own_s_aload X40.here hx (hb hby at_332) rfl rfl ?_
  refine own_s_iload X40.here hx (hb hby at_334) rfl ?_
  refine own_s_iconst X40.here hx (2 : Int32) (hb hby at_336) rfl ?_
  refine own_s_isub X40.here hx (hb hby at_337) ?_
  show own_Go p e below T40 (mkF m 338 #[.val (.int sh0), .val (.int pm0), .val (.int nd0), .val (.ref lp), .val (.int r_), .val (.int k_), .val (.ref pr), .val (.ref bf), .val (.int q_), .val (.int a_), .val (.int b_), .val (.int c_), .val (.int (4 : Int32)), .val (.ref rs), .val (.int (1 : Int32))] [(.int (2 : Int32)), (.ref rs)]) _
  refine own_by (fun tq_ kq_ => own_ldI X40 hx hZ e40 A_rs (k := 2) (v := (.int (own_f1 a_ r_ k_))) (by decide) (by decide) rfl (g := (mkF m 338 #[.val (.int sh0), .val (.int pm0), .val (.int nd0), .val (.ref lp), .val (.int r_), .val (.int k_), .val (.ref pr), .val (.ref bf), .val (.int q_), .val (.int a_), .val (.int b_), .val (.int c_), .val (.int (4 : Int32)), .val (.ref rs), .val (.int (1 : Int32))] [(.int (2 : Int32)), (.ref rs)])) rfl rfl (hb hby at_338) tq_ kq_) ?_
  show own_Go p e below T40 (mkF m 339 #[.val (.int sh0), .val (.int pm0), .val (.int nd0), .val (.ref lp), .val (.int r_), .val (.int k_), .val (.ref pr), .val (.ref bf), .val (.int q_), .val (.int a_), .val (.int b_), .val (.int c_), .val (.int (4 : Int32)), .val (.ref rs), .val (.int (1 : Int32))] [(.int (own_f1 a_ r_ k_))]) _
  refine own_s_iload X40.here hx (hb hby at_339) rfl ?_
  refine own_s_iload X40.here hx (hb hby at_341) rfl ?_
  refine own_s_iload X40.here hx (hb hby at_343) rfl ?_
  obtain ⟨_, _, ⟨T41, L41, k41, n41⟩, -, X41, ⟨Lc41, hQ41, l41, y41, z41⟩, st41⟩ := Jvm.LawKit.callS X40 hx (y := (⟨"com/example/geodesic/geodesic/graph/ShortestPathsWalkPinLaw", "s", "(III)I"⟩ : MethodName)) hown (mvT hZ (hw _ (List.mem_of_getElem? (i := 1) rfl))) (mvT hZ (hw _ (List.mem_of_getElem? (i := 2) rfl))) (mvT hZ (hw _ (List.mem_of_getElem? (i := 3) rfl))) (mvT hZ (hw _ (List.mem_of_getElem? (i := 4) rfl))) (by decide) (backOf (W := 1) (own_r1 l Z a0 hw [] a_ r_ k_  h0 n0 Z0 ) hZ (hw _ (List.mem_of_getElem? (i := 4) rfl)) (hw _ (List.mem_of_getElem? (i := 3) rfl)) (by decide) (by decide)) (g := (mkF m 345 #[.val (.int sh0), .val (.int pm0), .val (.int nd0), .val (.ref lp), .val (.int r_), .val (.int k_), .val (.ref pr), .val (.ref bf), .val (.int q_), .val (.int a_), .val (.int b_), .val (.int c_), .val (.int (4 : Int32)), .val (.ref rs), .val (.int (1 : Int32))] [(.int k_), (.int r_), (.int a_), (.int (own_f1 a_ r_ k_))])) rfl (by rw [hml]; rfl) (argsL := [(.int a_), (.int r_), (.int k_)]) (rest := [(.int (own_f1 a_ r_ k_))]) (lenOf own_pd_0 rfl) rfl (by show 2 * 0 + _ ≤ _; exact Nat.le_of_eq rfl) (hb hby at_345) (fun _ _ => ⟨rfl, e40, (by decide : 4 + 0 ≤ _), (by decide : 16 + 0 ≤ _)⟩)
  dsimp only [Pt.U, Pt.locs, Pt.cells, Pt.slots] at X41 l41 y41 z41 st41 hQ41
  subst l41 y41 z41
  obtain ⟨rfl, N41q, e41⟩ := hQ41
  have N41 := Fr.app N40 N41q
  refine own_by st41 ?_
  show own_Go p e below T41 (mkF m 348 #[.val (.int sh0), .val (.int pm0), .val (.int nd0), .val (.ref lp), .val (.int r_), .val (.int k_), .val (.ref pr), .val (.ref bf), .val (.int q_), .val (.int a_), .val (.int b_), .val (.int c_), .val (.int (4 : Int32)), .val (.ref rs), .val (.int (1 : Int32))] [(.int (own_f1 a_ r_ k_)), (.int (own_f1 a_ r_ k_))]) _
  refine own_s_icmpNo X41.here hx (hb hby at_348) (Jvm.Free.XT.ii_ne_f rfl) ?_
  refine own_s_iconst X41.here hx (1 : Int32) (hb hby at_351) rfl ?_
  show own_Go p e below T41 (mkF m 352 #[.val (.int sh0), .val (.int pm0), .val (.int nd0), .val (.ref lp), .val (.int r_), .val (.int k_), .val (.ref pr), .val (.ref bf), .val (.int q_), .val (.int a_), .val (.int b_), .val (.int c_), .val (.int (4 : Int32)), .val (.ref rs), .val (.int (1 : Int32))] [(.int (1 : Int32))]) _
  refine own_s_goto X41.here hx 356 (hb hby at_352) (by decide) (by decide) ?_
  refine own_s_istore X41.here hx #[.val (.int sh0), .val (.int pm0), .val (.int nd0), .val (.ref lp), .val (.int r_), .val (.int k_), .val (.ref pr), .val (.ref bf), .val (.int q_), .val (.int a_), .val (.int b_), .val (.int c_), .val (.int (4 : Int32)), .val (.ref rs), .val (.int (1 : Int32))] (hb hby at_356) rfl ?_
  refine own_s_iload X41.here hx (hb hby at_358) rfl ?_
  refine own_s_ifNo X41.here hx (hb hby at_360) (Jvm.Free.XT.i0_eq_f ((by decide))) ?_
  refine own_s_iload X41.here hx (hb hby at_363) rfl ?_
  refine own_s_iconst X41.here hx (3 : Int32) (hb hby at_365) rfl ?_
  refine own_s_icmpNo X41.here hx (hb hby at_366) (Jvm.Free.XT.ii_lt_f ((by decide))) ?_
  refine own_s_aload X41.here hx (hb hby at_369) rfl rfl ?_
  refine own_s_iload X41.here hx (hb hby at_371) rfl ?_
  refine own_s_iconst X41.here hx (3 : Int32) (hb hby at_373) rfl ?_
  refine own_s_isub X41.here hx (hb hby at_374) ?_
  show own_Go p e below T41 (mkF m 375 #[.val (.int sh0), .val (.int pm0), .val (.int nd0), .val (.ref lp), .val (.int r_), .val (.int k_), .val (.ref pr), .val (.ref bf), .val (.int q_), .val (.int a_), .val (.int b_), .val (.int c_), .val (.int (4 : Int32)), .val (.ref rs), .val (.int (1 : Int32))] [(.int (1 : Int32)), (.ref rs)]) _
  refine own_by (fun tq_ kq_ => own_ldI X41 hx hZ e41 A_rs (k := 1) (v := (.int (own_f1 b_ r_ k_))) (by decide) (by decide) rfl (g := (mkF m 375 #[.val (.int sh0), .val (.int pm0), .val (.int nd0), .val (.ref lp), .val (.int r_), .val (.int k_), .val (.ref pr), .val (.ref bf), .val (.int q_), .val (.int a_), .val (.int b_), .val (.int c_), .val (.int (4 : Int32)), .val (.ref rs), .val (.int (1 : Int32))] [(.int (1 : Int32)), (.ref rs)])) rfl rfl (hb hby at_375) tq_ kq_) ?_
  show own_Go p e below T41 (mkF m 376 #[.val (.int sh0), .val (.int pm0), .val (.int nd0), .val (.ref lp), .val (.int r_), .val (.int k_), .val (.ref pr), .val (.ref bf), .val (.int q_), .val (.int a_), .val (.int b_), .val (.int c_), .val (.int (4 : Int32)), .val (.ref rs), .val (.int (1 : Int32))] [(.int (own_f1 b_ r_ k_))]) _
  refine own_s_iload X41.here hx (hb hby at_376) rfl ?_
  refine own_s_iload X41.here hx (hb hby at_378) rfl ?_
  refine own_s_iload X41.here hx (hb hby at_380) rfl ?_
  obtain ⟨_, _, ⟨T42, L42, k42, n42⟩, -, X42, ⟨Lc42, hQ42, l42, y42, z42⟩, st42⟩ := Jvm.LawKit.callS X41 hx (y := (⟨"com/example/geodesic/geodesic/graph/ShortestPathsWalkPinLaw", "s", "(III)I"⟩ : MethodName)) hown (mvT hZ (hw _ (List.mem_of_getElem? (i := 1) rfl))) (mvT hZ (hw _ (List.mem_of_getElem? (i := 2) rfl))) (mvT hZ (hw _ (List.mem_of_getElem? (i := 3) rfl))) (mvT hZ (hw _ (List.mem_of_getElem? (i := 4) rfl))) (by decide) (backOf (W := 1) (own_r1 l Z a0 hw [] b_ r_ k_  h0 n0 Z0 ) hZ (hw _ (List.mem_of_getElem? (i := 4) rfl)) (hw _ (List.mem_of_getElem? (i := 3) rfl)) (by decide) (by decide)) (g := (mkF m 382 #[.val (.int sh0), .val (.int pm0), .val (.int nd0), .val (.ref lp), .val (.int r_), .val (.int k_), .val (.ref pr), .val (.ref bf), .val (.int q_), .val (.int a_), .val (.int b_), .val (.int c_), .val (.int (4 : Int32)), .val (.ref rs), .val (.int (1 : Int32))] [(.int k_), (.int r_), (.int b_), (.int (own_f1 b_ r_ k_))])) rfl (by rw [hml]; rfl) (argsL := [(.int b_), (.int r_), (.int k_)]) (rest := [(.int (own_f1 b_ r_ k_))]) (lenOf own_pd_0 rfl) rfl (by show 2 * 0 + _ ≤ _; exact Nat.le_of_eq rfl) (hb hby at_382) (fun _ _ => ⟨rfl, e41, (by decide : 4 + 0 ≤ _), (by decide : 16 + 0 ≤ _)⟩)
  dsimp only [Pt.U, Pt.locs, Pt.cells, Pt.slots] at X42 l42 y42 z42 st42 hQ42
  subst l42 y42 z42
  obtain ⟨rfl, N42q, e42⟩ := hQ42
  have N42 := Fr.app N41 N42q
  refine own_by st42 ?_
  show own_Go p e below T42 (mkF m 385 #[.val (.int sh0), .val (.int pm0), .val (.int nd0), .val (.ref lp), .val (.int r_), .val (.int k_), .val (.ref pr), .val (.ref bf), .val (.int q_), .val (.int a_), .val (.int b_), .val (.int c_), .val (.int (4 : Int32)), .val (.ref rs), .val (.int (1 : Int32))] [(.int (own_f1 b_ r_ k_)), (.int (own_f1 b_ r_ k_))]) _
  refine own_s_icmpNo X42.here hx (hb hby at_385) (Jvm.Free.XT.ii_ne_f rfl) ?_
  refine own_s_iconst X42.here hx (1 : Int32) (hb hby at_388) rfl ?_
  show own_Go p e below T42 (mkF m 389 #[.val (.int sh0), .val (.int pm0), .val (.int nd0), .val (.ref lp), .val (.int r_), .val (.int k_), .val (.ref pr), .val (.ref bf), .val (.int q_), .val (.int a_), .val (.int b_), .val (.int c_), .val (.int (4 : Int32)), .val (.ref rs), .val (.int (1 : Int32))] [(.int (1 : Int32))]) _
  refine own_s_goto X42.here hx 393 (hb hby at_389) (by decide) (by decide) ?_
  refine own_s_istore X42.here hx #[.val (.int sh0), .val (.int pm0), .val (.int nd0), .val (.ref lp), .val (.int r_), .val (.int k_), .val (.ref pr), .val (.ref bf), .val (.int q_), .val (.int a_), .val (.int b_), .val (.int c_), .val (.int (4 : Int32)), .val (.ref rs), .val (.int (1 : Int32))] (hb hby at_393) rfl ?_
  refine own_s_iload X42.here hx (hb hby at_395) rfl ?_
  refine own_s_ifNo X42.here hx (hb hby at_397) (Jvm.Free.XT.i0_eq_f ((by decide))) ?_
  refine own_s_iload X42.here hx (hb hby at_400) rfl ?_
  refine own_s_iconst X42.here hx (4 : Int32) (hb hby at_402) rfl ?_
  refine own_s_icmpNo X42.here hx (hb hby at_403) (Jvm.Free.XT.ii_lt_f ((by decide))) ?_
  refine own_s_aload X42.here hx (hb hby at_406) rfl rfl ?_
  refine own_s_iload X42.here hx (hb hby at_408) rfl ?_
  refine own_s_iconst X42.here hx (4 : Int32) (hb hby at_410) rfl ?_
  refine own_s_isub X42.here hx (hb hby at_411) ?_
  show own_Go p e below T42 (mkF m 412 #[.val (.int sh0), .val (.int pm0), .val (.int nd0), .val (.ref lp), .val (.int r_), .val (.int k_), .val (.ref pr), .val (.ref bf), .val (.int q_), .val (.int a_), .val (.int b_), .val (.int c_), .val (.int (4 : Int32)), .val (.ref rs), .val (.int (1 : Int32))] [(.int (0 : Int32)), (.ref rs)]) _
  refine own_by (fun tq_ kq_ => own_ldI X42 hx hZ e42 A_rs (k := 0) (v := (.int (own_f1 c_ r_ k_))) (by decide) (by decide) rfl (g := (mkF m 412 #[.val (.int sh0), .val (.int pm0), .val (.int nd0), .val (.ref lp), .val (.int r_), .val (.int k_), .val (.ref pr), .val (.ref bf), .val (.int q_), .val (.int a_), .val (.int b_), .val (.int c_), .val (.int (4 : Int32)), .val (.ref rs), .val (.int (1 : Int32))] [(.int (0 : Int32)), (.ref rs)])) rfl rfl (hb hby at_412) tq_ kq_) ?_
  show own_Go p e below T42 (mkF m 413 #[.val (.int sh0), .val (.int pm0), .val (.int nd0), .val (.ref lp), .val (.int r_), .val (.int k_), .val (.ref pr), .val (.ref bf), .val (.int q_), .val (.int a_), .val (.int b_), .val (.int c_), .val (.int (4 : Int32)), .val (.ref rs), .val (.int (1 : Int32))] [(.int (own_f1 c_ r_ k_))]) _
  refine own_s_iload X42.here hx (hb hby at_413) rfl ?_
  refine own_s_iload X42.here hx (hb hby at_415) rfl ?_
  refine own_s_iload X42.here hx (hb hby at_417) rfl ?_
  obtain ⟨_, _, ⟨T43, L43, k43, n43⟩, -, X43, ⟨Lc43, hQ43, l43, y43, z43⟩, st43⟩ := Jvm.LawKit.callS X42 hx (y := (⟨"com/example/geodesic/geodesic/graph/ShortestPathsWalkPinLaw", "s", "(III)I"⟩ : MethodName)) hown (mvT hZ (hw _ (List.mem_of_getElem? (i := 1) rfl))) (mvT hZ (hw _ (List.mem_of_getElem? (i := 2) rfl))) (mvT hZ (hw _ (List.mem_of_getElem? (i := 3) rfl))) (mvT hZ (hw _ (List.mem_of_getElem? (i := 4) rfl))) (by decide) (backOf (W := 1) (own_r1 l Z a0 hw [] c_ r_ k_  h0 n0 Z0 ) hZ (hw _ (List.mem_of_getElem? (i := 4) rfl)) (hw _ (List.mem_of_getElem? (i := 3) rfl)) (by decide) (by decide)) (g := (mkF m 419 #[.val (.int sh0), .val (.int pm0), .val (.int nd0), .val (.ref lp), .val (.int r_), .val (.int k_), .val (.ref pr), .val (.ref bf), .val (.int q_), .val (.int a_), .val (.int b_), .val (.int c_), .val (.int (4 : Int32)), .val (.ref rs), .val (.int (1 : Int32))] [(.int k_), (.int r_), (.int c_), (.int (own_f1 c_ r_ k_))])) rfl (by rw [hml]; rfl) (argsL := [(.int c_), (.int r_), (.int k_)]) (rest := [(.int (own_f1 c_ r_ k_))]) (lenOf own_pd_0 rfl) rfl (by show 2 * 0 + _ ≤ _; exact Nat.le_of_eq rfl) (hb hby at_419) (fun _ _ => ⟨rfl, e42, (by decide : 4 + 0 ≤ _), (by decide : 16 + 0 ≤ _)⟩)
  dsimp only [Pt.U, Pt.locs, Pt.cells, Pt.slots] at X43 l43 y43 z43 st43 hQ43
  subst l43 y43 z43
  obtain ⟨rfl, N43q, e43⟩ := hQ43
  have N43 := Fr.app N42 N43q
  refine own_by st43 ?_
  show own_Go p e below T43 (mkF m 422 #[.val (.int sh0), .val (.int pm0), .val (.int nd0), .val (.ref lp), .val (.int r_), .val (.int k_), .val (.ref pr), .val (.ref bf), .val (.int q_), .val (.int a_), .val (.int b_), .val (.int c_), .val (.int (4 : Int32)), .val (.ref rs), .val (.int (1 : Int32))] [(.int (own_f1 c_ r_ k_)), (.int (own_f1 c_ r_ k_))]) _
  refine own_s_icmpNo X43.here hx (hb hby at_422) (Jvm.Free.XT.ii_ne_f rfl) ?_
  refine own_s_iconst X43.here hx (1 : Int32) (hb hby at_425) rfl ?_
  show own_Go p e below T43 (mkF m 426 #[.val (.int sh0), .val (.int pm0), .val (.int nd0), .val (.ref lp), .val (.int r_), .val (.int k_), .val (.ref pr), .val (.ref bf), .val (.int q_), .val (.int a_), .val (.int b_), .val (.int c_), .val (.int (4 : Int32)), .val (.ref rs), .val (.int (1 : Int32))] [(.int (1 : Int32))]) _
  refine own_s_goto X43.here hx 430 (hb hby at_426) (by decide) (by decide) ?_
  refine own_s_istore X43.here hx #[.val (.int sh0), .val (.int pm0), .val (.int nd0), .val (.ref lp), .val (.int r_), .val (.int k_), .val (.ref pr), .val (.ref bf), .val (.int q_), .val (.int a_), .val (.int b_), .val (.int c_), .val (.int (4 : Int32)), .val (.ref rs), .val (.int (1 : Int32))] (hb hby at_430) rfl ?_
  refine own_s_iload X43.here hx (hb hby at_432) rfl ?_
  refine own_s_ifNo X43.here hx (hb hby at_434) (Jvm.Free.XT.i0_eq_f ((by decide))) ?_
  refine own_s_aload X43.here hx (hb hby at_437) rfl rfl ?_
  refine own_s_iconst X43.here hx (0 : Int32) (hb hby at_439) rfl ?_
  refine own_by (fun tq_ kq_ => own_ldI X43 hx hZ e43 A_pr (k := 0) (v := (.int ((own_pf s0 s1 s2 s3 v0 v1 v2 v3) 0))) (by decide) (by decide) rfl (g := (mkF m 440 #[.val (.int sh0), .val (.int pm0), .val (.int nd0), .val (.ref lp), .val (.int r_), .val (.int k_), .val (.ref pr), .val (.ref bf), .val (.int q_), .val (.int a_), .val (.int b_), .val (.int c_), .val (.int (4 : Int32)), .val (.ref rs), .val (.int (1 : Int32))] [(.int (0 : Int32)), (.ref pr)])) rfl rfl (hb hby at_440) tq_ kq_) ?_
  show own_Go p e below T43 (mkF m 441 #[.val (.int sh0), .val (.int pm0), .val (.int nd0), .val (.ref lp), .val (.int r_), .val (.int k_), .val (.ref pr), .val (.ref bf), .val (.int q_), .val (.int a_), .val (.int b_), .val (.int c_), .val (.int (4 : Int32)), .val (.ref rs), .val (.int (1 : Int32))] [(.int ((own_pf s0 s1 s2 s3 v0 v1 v2 v3) 0))]) _
  refine own_s_aload X43.here hx (hb hby at_441) rfl rfl ?_
  refine own_s_iconst X43.here hx (0 : Int32) (hb hby at_443) rfl ?_
  refine own_by (fun tq_ kq_ => own_ldI X43 hx hZ e43 A_bf (k := 0) (v := (.int ((own_pf s0 s1 s2 s3 v0 v1 v2 v3) 0))) (by decide) (by decide) rfl (g := (mkF m 444 #[.val (.int sh0), .val (.int pm0), .val (.int nd0), .val (.ref lp), .val (.int r_), .val (.int k_), .val (.ref pr), .val (.ref bf), .val (.int q_), .val (.int a_), .val (.int b_), .val (.int c_), .val (.int (4 : Int32)), .val (.ref rs), .val (.int (1 : Int32))] [(.int (0 : Int32)), (.ref bf), (.int ((own_pf s0 s1 s2 s3 v0 v1 v2 v3) 0))])) rfl rfl (hb hby at_444) tq_ kq_) ?_
  show own_Go p e below T43 (mkF m 445 #[.val (.int sh0), .val (.int pm0), .val (.int nd0), .val (.ref lp), .val (.int r_), .val (.int k_), .val (.ref pr), .val (.ref bf), .val (.int q_), .val (.int a_), .val (.int b_), .val (.int c_), .val (.int (4 : Int32)), .val (.ref rs), .val (.int (1 : Int32))] [(.int ((own_pf s0 s1 s2 s3 v0 v1 v2 v3) 0)), (.int ((own_pf s0 s1 s2 s3 v0 v1 v2 v3) 0))]) _
  refine own_s_icmpNo X43.here hx (hb hby at_445) (Jvm.Free.XT.ii_ne_f rfl) ?_
  refine own_s_aload X43.here hx (hb hby at_448) rfl rfl ?_
  refine own_s_iconst X43.here hx (1 : Int32) (hb hby at_450) rfl ?_
  refine own_by (fun tq_ kq_ => own_ldI X43 hx hZ e43 A_pr (k := 1) (v := (.int ((own_pf s0 s1 s2 s3 v0 v1 v2 v3) 1))) (by decide) (by decide) rfl (g := (mkF m 451 #[.val (.int sh0), .val (.int pm0), .val (.int nd0), .val (.ref lp), .val (.int r_), .val (.int k_), .val (.ref pr), .val (.ref bf), .val (.int q_), .val (.int a_), .val (.int b_), .val (.int c_), .val (.int (4 : Int32)), .val (.ref rs), .val (.int (1 : Int32))] [(.int (1 : Int32)), (.ref pr)])) rfl rfl (hb hby at_451) tq_ kq_) ?_
  show own_Go p e below T43 (mkF m 452 #[.val (.int sh0), .val (.int pm0), .val (.int nd0), .val (.ref lp), .val (.int r_), .val (.int k_), .val (.ref pr), .val (.ref bf), .val (.int q_), .val (.int a_), .val (.int b_), .val (.int c_), .val (.int (4 : Int32)), .val (.ref rs), .val (.int (1 : Int32))] [(.int ((own_pf s0 s1 s2 s3 v0 v1 v2 v3) 1))]) _
  refine own_s_aload X43.here hx (hb hby at_452) rfl rfl ?_
  refine own_s_iconst X43.here hx (1 : Int32) (hb hby at_454) rfl ?_
  refine own_by (fun tq_ kq_ => own_ldI X43 hx hZ e43 A_bf (k := 1) (v := (.int ((own_pf s0 s1 s2 s3 v0 v1 v2 v3) 1))) (by decide) (by decide) rfl (g := (mkF m 455 #[.val (.int sh0), .val (.int pm0), .val (.int nd0), .val (.ref lp), .val (.int r_), .val (.int k_), .val (.ref pr), .val (.ref bf), .val (.int q_), .val (.int a_), .val (.int b_), .val (.int c_), .val (.int (4 : Int32)), .val (.ref rs), .val (.int (1 : Int32))] [(.int (1 : Int32)), (.ref bf), (.int ((own_pf s0 s1 s2 s3 v0 v1 v2 v3) 1))])) rfl rfl (hb hby at_455) tq_ kq_) ?_
  show own_Go p e below T43 (mkF m 456 #[.val (.int sh0), .val (.int pm0), .val (.int nd0), .val (.ref lp), .val (.int r_), .val (.int k_), .val (.ref pr), .val (.ref bf), .val (.int q_), .val (.int a_), .val (.int b_), .val (.int c_), .val (.int (4 : Int32)), .val (.ref rs), .val (.int (1 : Int32))] [(.int ((own_pf s0 s1 s2 s3 v0 v1 v2 v3) 1)), (.int ((own_pf s0 s1 s2 s3 v0 v1 v2 v3) 1))]) _
  refine own_s_icmpNo X43.here hx (hb hby at_456) (Jvm.Free.XT.ii_ne_f rfl) ?_
  refine own_s_aload X43.here hx (hb hby at_459) rfl rfl ?_
  refine own_s_iconst X43.here hx (2 : Int32) (hb hby at_461) rfl ?_
  refine own_by (fun tq_ kq_ => own_ldI X43 hx hZ e43 A_pr (k := 2) (v := (.int ((own_pf s0 s1 s2 s3 v0 v1 v2 v3) 2))) (by decide) (by decide) rfl (g := (mkF m 462 #[.val (.int sh0), .val (.int pm0), .val (.int nd0), .val (.ref lp), .val (.int r_), .val (.int k_), .val (.ref pr), .val (.ref bf), .val (.int q_), .val (.int a_), .val (.int b_), .val (.int c_), .val (.int (4 : Int32)), .val (.ref rs), .val (.int (1 : Int32))] [(.int (2 : Int32)), (.ref pr)])) rfl rfl (hb hby at_462) tq_ kq_) ?_
  show own_Go p e below T43 (mkF m 463 #[.val (.int sh0), .val (.int pm0), .val (.int nd0), .val (.ref lp), .val (.int r_), .val (.int k_), .val (.ref pr), .val (.ref bf), .val (.int q_), .val (.int a_), .val (.int b_), .val (.int c_), .val (.int (4 : Int32)), .val (.ref rs), .val (.int (1 : Int32))] [(.int ((own_pf s0 s1 s2 s3 v0 v1 v2 v3) 2))]) _
  refine own_s_aload X43.here hx (hb hby at_463) rfl rfl ?_
  refine own_s_iconst X43.here hx (2 : Int32) (hb hby at_465) rfl ?_
  refine own_by (fun tq_ kq_ => own_ldI X43 hx hZ e43 A_bf (k := 2) (v := (.int ((own_pf s0 s1 s2 s3 v0 v1 v2 v3) 2))) (by decide) (by decide) rfl (g := (mkF m 466 #[.val (.int sh0), .val (.int pm0), .val (.int nd0), .val (.ref lp), .val (.int r_), .val (.int k_), .val (.ref pr), .val (.ref bf), .val (.int q_), .val (.int a_), .val (.int b_), .val (.int c_), .val (.int (4 : Int32)), .val (.ref rs), .val (.int (1 : Int32))] [(.int (2 : Int32)), (.ref bf), (.int ((own_pf s0 s1 s2 s3 v0 v1 v2 v3) 2))])) rfl rfl (hb hby at_466) tq_ kq_) ?_
  show own_Go p e below T43 (mkF m 467 #[.val (.int sh0), .val (.int pm0), .val (.int nd0), .val (.ref lp), .val (.int r_), .val (.int k_), .val (.ref pr), .val (.ref bf), .val (.int q_), .val (.int a_), .val (.int b_), .val (.int c_), .val (.int (4 : Int32)), .val (.ref rs), .val (.int (1 : Int32))] [(.int ((own_pf s0 s1 s2 s3 v0 v1 v2 v3) 2)), (.int ((own_pf s0 s1 s2 s3 v0 v1 v2 v3) 2))]) _
  refine own_s_icmpNo X43.here hx (hb hby at_467) (Jvm.Free.XT.ii_ne_f rfl) ?_
  refine own_s_aload X43.here hx (hb hby at_470) rfl rfl ?_
  refine own_s_iconst X43.here hx (3 : Int32) (hb hby at_472) rfl ?_
  refine own_by (fun tq_ kq_ => own_ldI X43 hx hZ e43 A_pr (k := 3) (v := (.int ((own_pf s0 s1 s2 s3 v0 v1 v2 v3) 3))) (by decide) (by decide) rfl (g := (mkF m 473 #[.val (.int sh0), .val (.int pm0), .val (.int nd0), .val (.ref lp), .val (.int r_), .val (.int k_), .val (.ref pr), .val (.ref bf), .val (.int q_), .val (.int a_), .val (.int b_), .val (.int c_), .val (.int (4 : Int32)), .val (.ref rs), .val (.int (1 : Int32))] [(.int (3 : Int32)), (.ref pr)])) rfl rfl (hb hby at_473) tq_ kq_) ?_
  show own_Go p e below T43 (mkF m 474 #[.val (.int sh0), .val (.int pm0), .val (.int nd0), .val (.ref lp), .val (.int r_), .val (.int k_), .val (.ref pr), .val (.ref bf), .val (.int q_), .val (.int a_), .val (.int b_), .val (.int c_), .val (.int (4 : Int32)), .val (.ref rs), .val (.int (1 : Int32))] [(.int ((own_pf s0 s1 s2 s3 v0 v1 v2 v3) 3))]) _
  refine own_s_aload X43.here hx (hb hby at_474) rfl rfl ?_
  refine own_s_iconst X43.here hx (3 : Int32) (hb hby at_476) rfl ?_
  refine own_by (fun tq_ kq_ => own_ldI X43 hx hZ e43 A_bf (k := 3) (v := (.int ((own_pf s0 s1 s2 s3 v0 v1 v2 v3) 3))) (by decide) (by decide) rfl (g := (mkF m 477 #[.val (.int sh0), .val (.int pm0), .val (.int nd0), .val (.ref lp), .val (.int r_), .val (.int k_), .val (.ref pr), .val (.ref bf), .val (.int q_), .val (.int a_), .val (.int b_), .val (.int c_), .val (.int (4 : Int32)), .val (.ref rs), .val (.int (1 : Int32))] [(.int (3 : Int32)), (.ref bf), (.int ((own_pf s0 s1 s2 s3 v0 v1 v2 v3) 3))])) rfl rfl (hb hby at_477) tq_ kq_) ?_
  show own_Go p e below T43 (mkF m 478 #[.val (.int sh0), .val (.int pm0), .val (.int nd0), .val (.ref lp), .val (.int r_), .val (.int k_), .val (.ref pr), .val (.ref bf), .val (.int q_), .val (.int a_), .val (.int b_), .val (.int c_), .val (.int (4 : Int32)), .val (.ref rs), .val (.int (1 : Int32))] [(.int ((own_pf s0 s1 s2 s3 v0 v1 v2 v3) 3)), (.int ((own_pf s0 s1 s2 s3 v0 v1 v2 v3) 3))]) _
  refine own_s_icmpNo X43.here hx (hb hby at_478) (Jvm.Free.XT.ii_ne_f rfl) ?_
  refine own_s_iconst X43.here hx (1 : Int32) (hb hby at_481) rfl ?_
  show own_Go p e below T43 (mkF m 482 #[.val (.int sh0), .val (.int pm0), .val (.int nd0), .val (.ref lp), .val (.int r_), .val (.int k_), .val (.ref pr), .val (.ref bf), .val (.int q_), .val (.int a_), .val (.int b_), .val (.int c_), .val (.int (4 : Int32)), .val (.ref rs), .val (.int (1 : Int32))] [(.int (1 : Int32))]) _
  refine own_s_goto X43.here hx 486 (hb hby at_482) (by decide) (by decide) ?_
  refine own_s_istore X43.here hx #[.val (.int sh0), .val (.int pm0), .val (.int nd0), .val (.ref lp), .val (.int r_), .val (.int k_), .val (.ref pr), .val (.ref bf), .val (.int q_), .val (.int a_), .val (.int b_), .val (.int c_), .val (.int (4 : Int32)), .val (.ref rs), .val (.int (1 : Int32))] (hb hby at_486) rfl ?_
  refine own_s_iload X43.here hx (hb hby at_488) rfl ?_
  refine own_retZ X43 hx hret hlk (hb hby at_490) rfl (by decide) (by decide) ?_
  exact ⟨rfl, N43⟩
theorem own_pd_1 : parseMethodDescriptor "([II)[I" = some ⟨[(.array .int), .int], some (.array .int)⟩ := by decide +kernel
set_option maxRecDepth 65536 in
set_option maxHeartbeats 40000000 in
theorem own_p187 {p : Program} {l : Launch} {e : Env} {s : State} {m : MethodId} {args : Array Value} {below : List Frame} {meth : Method} {c : Code} {Z : State} {a0 : Array Value} {n0 : Nat} (hx : p.tables.exec = Jvm.exec) (hZ : Z.Warmed39 s.vm) (hw : ∀ d ∈ tables_1, d.before a0 Z = true) (hby : c.code = code) (hml : c.maxLocals = 15) (hown : s.vm.findClass "com/example/geodesic/geodesic/graph/ShortestPathsWalkPinLaw" = some m.cls) (hnm : meth.name = "law") (hret : meth.sig.returnType = (some .boolean)) (hlk : meth.locks = false) (sh0 pm0 nd0 r_ k_ l1 l2 l3 : Int32) (lp pr bf : Addr) {T0 : State} {locs : List Loc} {h0 : Heap} (X0 : Stand p l e room_1 s m args below meth c T0 locs 3 12) (e0 : T0.heap = h0) (N0 : Fr n0 locs) (Z0 : n0 ≤ h0.size) (hr : 0 ≤ r_.toInt ∧ r_.toInt < 4) (hk : 0 ≤ k_.toInt ∧ k_.toInt < 4) (hL1 : l1 = -1 ∨ l1 = 0) (hL2 : l2 = -1 ∨ l2 = 0 ∨ l2 = 1) (hL3 : l3 = -1 ∨ l3 = 0 ∨ l3 = 1 ∨ l3 = 2) (A_lp : own_Av Z h0 lp .int 4 (own_upd (own_upd (own_upd (own_upd (fun _ => (.int (0 : Int32))) 0 (.int (-1 : Int32))) 1 (.int l1)) 2 (.int l2)) 3 (.int l3))) (A_pr : own_Av Z h0 pr .int 4 (fun i => .int ((own_pf ((own_f1 (0 : Int32) r_ k_).toNatClampNeg) ((own_f1 (1 : Int32) r_ k_).toNatClampNeg) ((own_f1 (2 : Int32) r_ k_).toNatClampNeg) ((own_f1 (3 : Int32) r_ k_).toNatClampNeg) (own_f2 (-1 : Int32) r_ k_) (own_f2 l1 r_ k_) (own_f2 l2 r_ k_) (own_f2 l3 r_ k_)) i))) (A_bf : own_Av Z h0 bf .int 4 (own_upd (own_upd (own_upd (own_upd (fun _ => (.int (0 : Int32))) 0 (.int ((own_pf ((own_f1 (0 : Int32) r_ k_).toNatClampNeg) ((own_f1 (1 : Int32) r_ k_).toNatClampNeg) ((own_f1 (2 : Int32) r_ k_).toNatClampNeg) ((own_f1 (3 : Int32) r_ k_).toNatClampNeg) (own_f2 (-1 : Int32) r_ k_) (own_f2 l1 r_ k_) (own_f2 l2 r_ k_) (own_f2 l3 r_ k_)) 0))) 1 (.int ((own_pf ((own_f1 (0 : Int32) r_ k_).toNatClampNeg) ((own_f1 (1 : Int32) r_ k_).toNatClampNeg) ((own_f1 (2 : Int32) r_ k_).toNatClampNeg) ((own_f1 (3 : Int32) r_ k_).toNatClampNeg) (own_f2 (-1 : Int32) r_ k_) (own_f2 l1 r_ k_) (own_f2 l2 r_ k_) (own_f2 l3 r_ k_)) 1))) 2 (.int ((own_pf ((own_f1 (0 : Int32) r_ k_).toNatClampNeg) ((own_f1 (1 : Int32) r_ k_).toNatClampNeg) ((own_f1 (2 : Int32) r_ k_).toNatClampNeg) ((own_f1 (3 : Int32) r_ k_).toNatClampNeg) (own_f2 (-1 : Int32) r_ k_) (own_f2 l1 r_ k_) (own_f2 l2 r_ k_) (own_f2 l3 r_ k_)) 2))) 3 (.int ((own_pf ((own_f1 (0 : Int32) r_ k_).toNatClampNeg) ((own_f1 (1 : Int32) r_ k_).toNatClampNeg) ((own_f1 (2 : Int32) r_ k_).toNatClampNeg) ((own_f1 (3 : Int32) r_ k_).toNatClampNeg) (own_f2 (-1 : Int32) r_ k_) (own_f2 l1 r_ k_) (own_f2 l2 r_ k_) (own_f2 l3 r_ k_)) 3)))) :
    own_Go p e below T0 (mkF m 187 #[.val (.int sh0), .val (.int pm0), .val (.int nd0), .val (.ref lp), .val (.int r_), .val (.int k_), .val (.ref pr), .val (.ref bf), .val (.int (nd0 &&& (3 : Int32))), .unset, .unset, .unset, .unset, .unset, .unset] []) (own_Fin s (fun (v : Option Value) (h : Heap) (L : List Loc) => v = some (.int 1) ∧ Fr n0 L) 16 128) := by
  show own_Go p e below T0 (mkF m 187 #[.val (.int sh0), .val (.int pm0), .val (.int nd0), .val (.ref lp), .val (.int r_), .val (.int k_), .val (.ref pr), .val (.ref bf), .val (.int (nd0 &&& (3 : Int32))), .unset, .unset, .unset, .unset, .unset, .unset] []) _
  obtain ⟨f0, f1, f2, f3, n01, n02, n03, n12, n13, n23⟩ := own_Sr r_ k_ hr hk
  have hpf := own_pfh (v0 := (own_f2 (-1 : Int32) r_ k_)) (v1 := (own_f2 l1 r_ k_)) (v2 := (own_f2 l2 r_ k_)) (v3 := (own_f2 l3 r_ k_)) n01 n02 n03 n12 n13 n23
  have hq := own_q3 nd0
  generalize (nd0 &&& (3 : Int32)) = q_ at hq ⊢
  rcases hq with rfl | rfl | rfl | rfl
  ·
    show own_Go p e below T0 (mkF m 187 #[.val (.int sh0), .val (.int pm0), .val (.int nd0), .val (.ref lp), .val (.int r_), .val (.int k_), .val (.ref pr), .val (.ref bf), .val (.int (0 : Int32)), .unset, .unset, .unset, .unset, .unset, .unset] []) _
    refine own_s_aloadN X0.here hx (hb hby at_187) rfl rfl ?_
    refine own_s_iload X0.here hx (hb hby at_188) rfl ?_
    refine own_by (fun tq_ kq_ => own_ldI X0 hx hZ e0 A_lp (k := 0) (v := (.int (-1 : Int32))) (by decide) (by decide) rfl (g := (mkF m 190 #[.val (.int sh0), .val (.int pm0), .val (.int nd0), .val (.ref lp), .val (.int r_), .val (.int k_), .val (.ref pr), .val (.ref bf), .val (.int (0 : Int32)), .unset, .unset, .unset, .unset, .unset, .unset] [(.int (0 : Int32)), (.ref lp)])) rfl rfl (hb hby at_190) tq_ kq_) ?_
    show own_Go p e below T0 (mkF m 191 #[.val (.int sh0), .val (.int pm0), .val (.int nd0), .val (.ref lp), .val (.int r_), .val (.int k_), .val (.ref pr), .val (.ref bf), .val (.int (0 : Int32)), .unset, .unset, .unset, .unset, .unset, .unset] [(.int (-1 : Int32))]) _
    refine own_s_istore X0.here hx #[.val (.int sh0), .val (.int pm0), .val (.int nd0), .val (.ref lp), .val (.int r_), .val (.int k_), .val (.ref pr), .val (.ref bf), .val (.int (0 : Int32)), .val (.int (-1 : Int32)), .unset, .unset, .unset, .unset, .unset] (hb hby at_191) rfl ?_
    refine own_s_iload X0.here hx (hb hby at_193) rfl ?_
    refine own_s_ifNo X0.here hx (hb hby at_195) (Jvm.Free.XT.i0_ge_f ((by decide))) ?_
    refine own_s_iconst X0.here hx (-1 : Int32) (hb hby at_198) rfl ?_
    show own_Go p e below T0 (mkF m 199 #[.val (.int sh0), .val (.int pm0), .val (.int nd0), .val (.ref lp), .val (.int r_), .val (.int k_), .val (.ref pr), .val (.ref bf), .val (.int (0 : Int32)), .val (.int (-1 : Int32)), .unset, .unset, .unset, .unset, .unset] [(.int (-1 : Int32))]) _
    refine own_s_goto X0.here hx 206 (hb hby at_199) (by decide) (by decide) ?_
    refine own_s_istore X0.here hx #[.val (.int sh0), .val (.int pm0), .val (.int nd0), .val (.ref lp), .val (.int r_), .val (.int k_), .val (.ref pr), .val (.ref bf), .val (.int (0 : Int32)), .val (.int (-1 : Int32)), .val (.int (-1 : Int32)), .unset, .unset, .unset, .unset] (hb hby at_206) rfl ?_
    refine own_s_iload X0.here hx (hb hby at_208) rfl ?_
    refine own_s_ifNo X0.here hx (hb hby at_210) (Jvm.Free.XT.i0_ge_f ((by decide))) ?_
    refine own_s_iconst X0.here hx (-1 : Int32) (hb hby at_213) rfl ?_
    show own_Go p e below T0 (mkF m 214 #[.val (.int sh0), .val (.int pm0), .val (.int nd0), .val (.ref lp), .val (.int r_), .val (.int k_), .val (.ref pr), .val (.ref bf), .val (.int (0 : Int32)), .val (.int (-1 : Int32)), .val (.int (-1 : Int32)), .unset, .unset, .unset, .unset] [(.int (-1 : Int32))]) _
    refine own_s_goto X0.here hx 221 (hb hby at_214) (by decide) (by decide) ?_
    refine own_s_istore X0.here hx #[.val (.int sh0), .val (.int pm0), .val (.int nd0), .val (.ref lp), .val (.int r_), .val (.int k_), .val (.ref pr), .val (.ref bf), .val (.int (0 : Int32)), .val (.int (-1 : Int32)), .val (.int (-1 : Int32)), .val (.int (-1 : Int32)), .unset, .unset, .unset] (hb hby at_221) rfl ?_
    refine own_s_iconst X0.here hx (1 : Int32) (hb hby at_223) rfl ?_
    refine own_s_iload X0.here hx (hb hby at_224) rfl ?_
    show own_Go p e below T0 (mkF m 226 #[.val (.int sh0), .val (.int pm0), .val (.int nd0), .val (.ref lp), .val (.int r_), .val (.int k_), .val (.ref pr), .val (.ref bf), .val (.int (0 : Int32)), .val (.int (-1 : Int32)), .val (.int (-1 : Int32)), .val (.int (-1 : Int32)), .unset, .unset, .unset] [(.int (-1 : Int32)), (.int (1 : Int32))]) _
    refine own_s_ifYes X0.here hx 233 (hb hby at_226) (Jvm.Free.XT.i0_lt_t ((by decide))) (by decide) (by decide) ?_
    refine own_s_iconst X0.here hx (0 : Int32) (hb hby at_233) rfl ?_
    refine own_s_iadd X0.here hx (hb hby at_234) ?_
    refine own_s_iload X0.here hx (hb hby at_235) rfl ?_
    show own_Go p e below T0 (mkF m 237 #[.val (.int sh0), .val (.int pm0), .val (.int nd0), .val (.ref lp), .val (.int r_), .val (.int k_), .val (.ref pr), .val (.ref bf), .val (.int (0 : Int32)), .val (.int (-1 : Int32)), .val (.int (-1 : Int32)), .val (.int (-1 : Int32)), .unset, .unset, .unset] [(.int (-1 : Int32)), (.int ((1 : Int32) + (0 : Int32)))]) _
    refine own_s_ifYes X0.here hx 244 (hb hby at_237) (Jvm.Free.XT.i0_lt_t ((by decide))) (by decide) (by decide) ?_
    refine own_s_iconst X0.here hx (0 : Int32) (hb hby at_244) rfl ?_
    refine own_s_iadd X0.here hx (hb hby at_245) ?_
    refine own_s_iload X0.here hx (hb hby at_246) rfl ?_
    show own_Go p e below T0 (mkF m 248 #[.val (.int sh0), .val (.int pm0), .val (.int nd0), .val (.ref lp), .val (.int r_), .val (.int k_), .val (.ref pr), .val (.ref bf), .val (.int (0 : Int32)), .val (.int (-1 : Int32)), .val (.int (-1 : Int32)), .val (.int (-1 : Int32)), .unset, .unset, .unset] [(.int (-1 : Int32)), (.int (((1 : Int32) + (0 : Int32)) + (0 : Int32)))]) _
    refine own_s_ifYes X0.here hx 255 (hb hby at_248) (Jvm.Free.XT.i0_lt_t ((by decide))) (by decide) (by decide) ?_
    refine own_s_iconst X0.here hx (0 : Int32) (hb hby at_255) rfl ?_
    refine own_s_iadd X0.here hx (hb hby at_256) ?_
    show own_Go p e below T0 (mkF m 257 #[.val (.int sh0), .val (.int pm0), .val (.int nd0), .val (.ref lp), .val (.int r_), .val (.int k_), .val (.ref pr), .val (.ref bf), .val (.int (0 : Int32)), .val (.int (-1 : Int32)), .val (.int (-1 : Int32)), .val (.int (-1 : Int32)), .unset, .unset, .unset] [(.int (1 : Int32))]) _
    refine own_s_istore X0.here hx #[.val (.int sh0), .val (.int pm0), .val (.int nd0), .val (.ref lp), .val (.int r_), .val (.int k_), .val (.ref pr), .val (.ref bf), .val (.int (0 : Int32)), .val (.int (-1 : Int32)), .val (.int (-1 : Int32)), .val (.int (-1 : Int32)), .val (.int (1 : Int32)), .unset, .unset] (hb hby at_257) rfl ?_
    refine own_s_aload X0.here hx (hb hby at_259) rfl rfl ?_
    refine own_s_iload X0.here hx (hb hby at_261) rfl ?_
    refine own_s_iload X0.here hx (hb hby at_263) rfl ?_
    refine own_s_iload X0.here hx (hb hby at_265) rfl ?_
    obtain ⟨_, _, ⟨T44, L44, k44, n44⟩, -, X44, ⟨Lc44, hQ44, l44, y44, z44⟩, st44⟩ := Jvm.LawKit.callS X0 hx (y := (⟨"com/example/geodesic/geodesic/graph/ShortestPathsWalkPinLaw", "s", "(III)I"⟩ : MethodName)) hown (mvT hZ (hw _ (List.mem_of_getElem? (i := 1) rfl))) (mvT hZ (hw _ (List.mem_of_getElem? (i := 2) rfl))) (mvT hZ (hw _ (List.mem_of_getElem? (i := 3) rfl))) (mvT hZ (hw _ (List.mem_of_getElem? (i := 4) rfl))) (by decide) (backOf (W := 1) (own_r1 l Z a0 hw [] (0 : Int32) r_ k_  h0 n0 Z0 ) hZ (hw _ (List.mem_of_getElem? (i := 4) rfl)) (hw _ (List.mem_of_getElem? (i := 3) rfl)) (by decide) (by decide)) (g := (mkF m 267 #[.val (.int sh0), .val (.int pm0), .val (.int nd0), .val (.ref lp), .val (.int r_), .val (.int k_), .val (.ref pr), .val (.ref bf), .val (.int (0 : Int32)), .val (.int (-1 : Int32)), .val (.int (-1 : Int32)), .val (.int (-1 : Int32)), .val (.int (1 : Int32)), .unset, .unset] [(.int k_), (.int r_), (.int (0 : Int32)), (.ref pr)])) rfl (by rw [hml]; rfl) (argsL := [(.int (0 : Int32)), (.int r_), (.int k_)]) (rest := [(.ref pr)]) (lenOf own_pd_0 rfl) rfl (by show 2 * 0 + _ ≤ _; exact Nat.le_of_eq rfl) (hb hby at_267) (fun _ _ => ⟨rfl, e0, (by decide : 3 + 0 ≤ _), (by decide : 12 + 0 ≤ _)⟩)
    dsimp only [Pt.U, Pt.locs, Pt.cells, Pt.slots] at X44 l44 y44 z44 st44 hQ44
    subst l44 y44 z44
    obtain ⟨rfl, N44q, e44⟩ := hQ44
    have N44 := Fr.app N0 N44q
    refine own_by st44 ?_
    show own_Go p e below T44 (mkF m 270 #[.val (.int sh0), .val (.int pm0), .val (.int nd0), .val (.ref lp), .val (.int r_), .val (.int k_), .val (.ref pr), .val (.ref bf), .val (.int (0 : Int32)), .val (.int (-1 : Int32)), .val (.int (-1 : Int32)), .val (.int (-1 : Int32)), .val (.int (1 : Int32)), .unset, .unset] [(.int (own_f1 (0 : Int32) r_ k_)), (.ref pr)]) _
    obtain ⟨_, _, ⟨T45, L45, k45, n45⟩, -, X45, ⟨Lc45, hQ45, l45, y45, z45⟩, st45⟩ := Jvm.LawKit.callS X44 hx (y := (⟨"com/example/geodesic/geodesic/graph/ShortestPaths", "walk", "([II)[I"⟩ : MethodName)) hown (mvT hZ (hw _ (List.mem_of_getElem? (i := 8) rfl))) (mvT hZ (hw _ (List.mem_of_getElem? (i := 9) rfl))) (mvT hZ (hw _ (List.mem_of_getElem? (i := 10) rfl))) (mvT hZ (hw _ (List.mem_of_getElem? (i := 11) rfl))) (by decide) (backOf (W := 0) (own_wk1 l Z a0 hw [] pr (own_f1 (0 : Int32) r_ k_) ((own_f1 (0 : Int32) r_ k_).toNatClampNeg) (fun i => .int ((own_pf ((own_f1 (0 : Int32) r_ k_).toNatClampNeg) ((own_f1 (1 : Int32) r_ k_).toNatClampNeg) ((own_f1 (2 : Int32) r_ k_).toNatClampNeg) ((own_f1 (3 : Int32) r_ k_).toNatClampNeg) (own_f2 (-1 : Int32) r_ k_) (own_f2 l1 r_ k_) (own_f2 l2 r_ k_) (own_f2 l3 r_ k_)) i)) h0 n0 Z0 ⟨f0.1, rfl⟩ f0.2.1 (congrArg Value.int ((hpf.1).trans (own_img0 _ _ _ (by decide)))) A_pr) hZ (hw _ (List.mem_of_getElem? (i := 11) rfl)) (hw _ (List.mem_of_getElem? (i := 10) rfl)) (by decide) (by decide)) (g := (mkF m 270 #[.val (.int sh0), .val (.int pm0), .val (.int nd0), .val (.ref lp), .val (.int r_), .val (.int k_), .val (.ref pr), .val (.ref bf), .val (.int (0 : Int32)), .val (.int (-1 : Int32)), .val (.int (-1 : Int32)), .val (.int (-1 : Int32)), .val (.int (1 : Int32)), .unset, .unset] [(.int (own_f1 (0 : Int32) r_ k_)), (.ref pr)])) rfl (by rw [hml]; rfl) (argsL := [(.ref pr), (.int (own_f1 (0 : Int32) r_ k_))]) (rest := []) (lenOf own_pd_1 rfl) rfl (by show 2 * 0 + _ ≤ _; exact Nat.le_of_eq rfl) (hb hby at_270) (fun _ _ => ⟨rfl, e44, (by decide : 3 + 1 ≤ _), (by decide : 12 + 1 ≤ _)⟩)
    dsimp only [Pt.U, Pt.locs, Pt.cells, Pt.slots] at X45 l45 y45 z45 st45 hQ45
    subst l45 y45 z45
    obtain ⟨bb45, rfl, N45q, gb45, K45, fa45⟩ := hQ45
    have N45 := Fr.app N44 N45q
    have f46 := A_lp.keep K45 nin0
    have f47 := A_pr.keep K45 nin0
    have f48 := A_bf.keep K45 nin0
    have SZ45 : n0 ≤ T45.heap.size := Nat.le_trans Z0 K45.1
    refine own_by st45 ?_
    show own_Go p e below T45 (mkF m 273 #[.val (.int sh0), .val (.int pm0), .val (.int nd0), .val (.ref lp), .val (.int r_), .val (.int k_), .val (.ref pr), .val (.ref bf), .val (.int (0 : Int32)), .val (.int (-1 : Int32)), .val (.int (-1 : Int32)), .val (.int (-1 : Int32)), .val (.int (1 : Int32)), .unset, .unset] [(.ref bb45)]) _
    exact own_t1 hx hZ hw hby hml hown hnm hret hlk  sh0 pm0 nd0 r_ k_ (0 : Int32) (-1 : Int32) (-1 : Int32) (-1 : Int32) (own_f2 (-1 : Int32) r_ k_) (own_f2 l1 r_ k_) (own_f2 l2 r_ k_) (own_f2 l3 r_ k_) lp pr bf bb45 ((own_f1 (0 : Int32) r_ k_).toNatClampNeg) ((own_f1 (1 : Int32) r_ k_).toNatClampNeg) ((own_f1 (2 : Int32) r_ k_).toNatClampNeg) ((own_f1 (3 : Int32) r_ k_).toNatClampNeg) X45 rfl N45 SZ45 f47 f48 fa45
  ·
    show own_Go p e below T0 (mkF m 187 #[.val (.int sh0), .val (.int pm0), .val (.int nd0), .val (.ref lp), .val (.int r_), .val (.int k_), .val (.ref pr), .val (.ref bf), .val (.int (1 : Int32)), .unset, .unset, .unset, .unset, .unset, .unset] []) _
    rcases hL1 with rfl | rfl
    ·
      show own_Go p e below T0 (mkF m 187 #[.val (.int sh0), .val (.int pm0), .val (.int nd0), .val (.ref lp), .val (.int r_), .val (.int k_), .val (.ref pr), .val (.ref bf), .val (.int (1 : Int32)), .unset, .unset, .unset, .unset, .unset, .unset] []) _
      refine own_s_aloadN X0.here hx (hb hby at_187) rfl rfl ?_
      refine own_s_iload X0.here hx (hb hby at_188) rfl ?_
      refine own_by (fun tq_ kq_ => own_ldI X0 hx hZ e0 A_lp (k := 1) (v := (.int (-1 : Int32))) (by decide) (by decide) rfl (g := (mkF m 190 #[.val (.int sh0), .val (.int pm0), .val (.int nd0), .val (.ref lp), .val (.int r_), .val (.int k_), .val (.ref pr), .val (.ref bf), .val (.int (1 : Int32)), .unset, .unset, .unset, .unset, .unset, .unset] [(.int (1 : Int32)), (.ref lp)])) rfl rfl (hb hby at_190) tq_ kq_) ?_
      show own_Go p e below T0 (mkF m 191 #[.val (.int sh0), .val (.int pm0), .val (.int nd0), .val (.ref lp), .val (.int r_), .val (.int k_), .val (.ref pr), .val (.ref bf), .val (.int (1 : Int32)), .unset, .unset, .unset, .unset, .unset, .unset] [(.int (-1 : Int32))]) _
      refine own_s_istore X0.here hx #[.val (.int sh0), .val (.int pm0), .val (.int nd0), .val (.ref lp), .val (.int r_), .val (.int k_), .val (.ref pr), .val (.ref bf), .val (.int (1 : Int32)), .val (.int (-1 : Int32)), .unset, .unset, .unset, .unset, .unset] (hb hby at_191) rfl ?_
      refine own_s_iload X0.here hx (hb hby at_193) rfl ?_
      refine own_s_ifNo X0.here hx (hb hby at_195) (Jvm.Free.XT.i0_ge_f ((by decide))) ?_
      refine own_s_iconst X0.here hx (-1 : Int32) (hb hby at_198) rfl ?_
      show own_Go p e below T0 (mkF m 199 #[.val (.int sh0), .val (.int pm0), .val (.int nd0), .val (.ref lp), .val (.int r_), .val (.int k_), .val (.ref pr), .val (.ref bf), .val (.int (1 : Int32)), .val (.int (-1 : Int32)), .unset, .unset, .unset, .unset, .unset] [(.int (-1 : Int32))]) _
      refine own_s_goto X0.here hx 206 (hb hby at_199) (by decide) (by decide) ?_
      refine own_s_istore X0.here hx #[.val (.int sh0), .val (.int pm0), .val (.int nd0), .val (.ref lp), .val (.int r_), .val (.int k_), .val (.ref pr), .val (.ref bf), .val (.int (1 : Int32)), .val (.int (-1 : Int32)), .val (.int (-1 : Int32)), .unset, .unset, .unset, .unset] (hb hby at_206) rfl ?_
      refine own_s_iload X0.here hx (hb hby at_208) rfl ?_
      refine own_s_ifNo X0.here hx (hb hby at_210) (Jvm.Free.XT.i0_ge_f ((by decide))) ?_
      refine own_s_iconst X0.here hx (-1 : Int32) (hb hby at_213) rfl ?_
      show own_Go p e below T0 (mkF m 214 #[.val (.int sh0), .val (.int pm0), .val (.int nd0), .val (.ref lp), .val (.int r_), .val (.int k_), .val (.ref pr), .val (.ref bf), .val (.int (1 : Int32)), .val (.int (-1 : Int32)), .val (.int (-1 : Int32)), .unset, .unset, .unset, .unset] [(.int (-1 : Int32))]) _
      refine own_s_goto X0.here hx 221 (hb hby at_214) (by decide) (by decide) ?_
      refine own_s_istore X0.here hx #[.val (.int sh0), .val (.int pm0), .val (.int nd0), .val (.ref lp), .val (.int r_), .val (.int k_), .val (.ref pr), .val (.ref bf), .val (.int (1 : Int32)), .val (.int (-1 : Int32)), .val (.int (-1 : Int32)), .val (.int (-1 : Int32)), .unset, .unset, .unset] (hb hby at_221) rfl ?_
      refine own_s_iconst X0.here hx (1 : Int32) (hb hby at_223) rfl ?_
      refine own_s_iload X0.here hx (hb hby at_224) rfl ?_
      show own_Go p e below T0 (mkF m 226 #[.val (.int sh0), .val (.int pm0), .val (.int nd0), .val (.ref lp), .val (.int r_), .val (.int k_), .val (.ref pr), .val (.ref bf), .val (.int (1 : Int32)), .val (.int (-1 : Int32)), .val (.int (-1 : Int32)), .val (.int (-1 : Int32)), .unset, .unset, .unset] [(.int (-1 : Int32)), (.int (1 : Int32))]) _
      refine own_s_ifYes X0.here hx 233 (hb hby at_226) (Jvm.Free.XT.i0_lt_t ((by decide))) (by decide) (by decide) ?_
      refine own_s_iconst X0.here hx (0 : Int32) (hb hby at_233) rfl ?_
      refine own_s_iadd X0.here hx (hb hby at_234) ?_
      refine own_s_iload X0.here hx (hb hby at_235) rfl ?_
      show own_Go p e below T0 (mkF m 237 #[.val (.int sh0), .val (.int pm0), .val (.int nd0), .val (.ref lp), .val (.int r_), .val (.int k_), .val (.ref pr), .val (.ref bf), .val (.int (1 : Int32)), .val (.int (-1 : Int32)), .val (.int (-1 : Int32)), .val (.int (-1 : Int32)), .unset, .unset, .unset] [(.int (-1 : Int32)), (.int ((1 : Int32) + (0 : Int32)))]) _
      refine own_s_ifYes X0.here hx 244 (hb hby at_237) (Jvm.Free.XT.i0_lt_t ((by decide))) (by decide) (by decide) ?_
      refine own_s_iconst X0.here hx (0 : Int32) (hb hby at_244) rfl ?_
      refine own_s_iadd X0.here hx (hb hby at_245) ?_
      refine own_s_iload X0.here hx (hb hby at_246) rfl ?_
      show own_Go p e below T0 (mkF m 248 #[.val (.int sh0), .val (.int pm0), .val (.int nd0), .val (.ref lp), .val (.int r_), .val (.int k_), .val (.ref pr), .val (.ref bf), .val (.int (1 : Int32)), .val (.int (-1 : Int32)), .val (.int (-1 : Int32)), .val (.int (-1 : Int32)), .unset, .unset, .unset] [(.int (-1 : Int32)), (.int (((1 : Int32) + (0 : Int32)) + (0 : Int32)))]) _
      refine own_s_ifYes X0.here hx 255 (hb hby at_248) (Jvm.Free.XT.i0_lt_t ((by decide))) (by decide) (by decide) ?_
      refine own_s_iconst X0.here hx (0 : Int32) (hb hby at_255) rfl ?_
      refine own_s_iadd X0.here hx (hb hby at_256) ?_
      show own_Go p e below T0 (mkF m 257 #[.val (.int sh0), .val (.int pm0), .val (.int nd0), .val (.ref lp), .val (.int r_), .val (.int k_), .val (.ref pr), .val (.ref bf), .val (.int (1 : Int32)), .val (.int (-1 : Int32)), .val (.int (-1 : Int32)), .val (.int (-1 : Int32)), .unset, .unset, .unset] [(.int (1 : Int32))]) _
      refine own_s_istore X0.here hx #[.val (.int sh0), .val (.int pm0), .val (.int nd0), .val (.ref lp), .val (.int r_), .val (.int k_), .val (.ref pr), .val (.ref bf), .val (.int (1 : Int32)), .val (.int (-1 : Int32)), .val (.int (-1 : Int32)), .val (.int (-1 : Int32)), .val (.int (1 : Int32)), .unset, .unset] (hb hby at_257) rfl ?_
      refine own_s_aload X0.here hx (hb hby at_259) rfl rfl ?_
      refine own_s_iload X0.here hx (hb hby at_261) rfl ?_
      refine own_s_iload X0.here hx (hb hby at_263) rfl ?_
      refine own_s_iload X0.here hx (hb hby at_265) rfl ?_
      obtain ⟨_, _, ⟨T49, L49, k49, n49⟩, -, X49, ⟨Lc49, hQ49, l49, y49, z49⟩, st49⟩ := Jvm.LawKit.callS X0 hx (y := (⟨"com/example/geodesic/geodesic/graph/ShortestPathsWalkPinLaw", "s", "(III)I"⟩ : MethodName)) hown (mvT hZ (hw _ (List.mem_of_getElem? (i := 1) rfl))) (mvT hZ (hw _ (List.mem_of_getElem? (i := 2) rfl))) (mvT hZ (hw _ (List.mem_of_getElem? (i := 3) rfl))) (mvT hZ (hw _ (List.mem_of_getElem? (i := 4) rfl))) (by decide) (backOf (W := 1) (own_r1 l Z a0 hw [] (1 : Int32) r_ k_  h0 n0 Z0 ) hZ (hw _ (List.mem_of_getElem? (i := 4) rfl)) (hw _ (List.mem_of_getElem? (i := 3) rfl)) (by decide) (by decide)) (g := (mkF m 267 #[.val (.int sh0), .val (.int pm0), .val (.int nd0), .val (.ref lp), .val (.int r_), .val (.int k_), .val (.ref pr), .val (.ref bf), .val (.int (1 : Int32)), .val (.int (-1 : Int32)), .val (.int (-1 : Int32)), .val (.int (-1 : Int32)), .val (.int (1 : Int32)), .unset, .unset] [(.int k_), (.int r_), (.int (1 : Int32)), (.ref pr)])) rfl (by rw [hml]; rfl) (argsL := [(.int (1 : Int32)), (.int r_), (.int k_)]) (rest := [(.ref pr)]) (lenOf own_pd_0 rfl) rfl (by show 2 * 0 + _ ≤ _; exact Nat.le_of_eq rfl) (hb hby at_267) (fun _ _ => ⟨rfl, e0, (by decide : 3 + 0 ≤ _), (by decide : 12 + 0 ≤ _)⟩)
      dsimp only [Pt.U, Pt.locs, Pt.cells, Pt.slots] at X49 l49 y49 z49 st49 hQ49
      subst l49 y49 z49
      obtain ⟨rfl, N49q, e49⟩ := hQ49
      have N49 := Fr.app N0 N49q
      refine own_by st49 ?_
      show own_Go p e below T49 (mkF m 270 #[.val (.int sh0), .val (.int pm0), .val (.int nd0), .val (.ref lp), .val (.int r_), .val (.int k_), .val (.ref pr), .val (.ref bf), .val (.int (1 : Int32)), .val (.int (-1 : Int32)), .val (.int (-1 : Int32)), .val (.int (-1 : Int32)), .val (.int (1 : Int32)), .unset, .unset] [(.int (own_f1 (1 : Int32) r_ k_)), (.ref pr)]) _
      obtain ⟨_, _, ⟨T50, L50, k50, n50⟩, -, X50, ⟨Lc50, hQ50, l50, y50, z50⟩, st50⟩ := Jvm.LawKit.callS X49 hx (y := (⟨"com/example/geodesic/geodesic/graph/ShortestPaths", "walk", "([II)[I"⟩ : MethodName)) hown (mvT hZ (hw _ (List.mem_of_getElem? (i := 8) rfl))) (mvT hZ (hw _ (List.mem_of_getElem? (i := 9) rfl))) (mvT hZ (hw _ (List.mem_of_getElem? (i := 10) rfl))) (mvT hZ (hw _ (List.mem_of_getElem? (i := 11) rfl))) (by decide) (backOf (W := 0) (own_wk1 l Z a0 hw [] pr (own_f1 (1 : Int32) r_ k_) ((own_f1 (1 : Int32) r_ k_).toNatClampNeg) (fun i => .int ((own_pf ((own_f1 (0 : Int32) r_ k_).toNatClampNeg) ((own_f1 (1 : Int32) r_ k_).toNatClampNeg) ((own_f1 (2 : Int32) r_ k_).toNatClampNeg) ((own_f1 (3 : Int32) r_ k_).toNatClampNeg) (own_f2 (-1 : Int32) r_ k_) (own_f2 (-1 : Int32) r_ k_) (own_f2 l2 r_ k_) (own_f2 l3 r_ k_)) i)) h0 n0 Z0 ⟨f1.1, rfl⟩ f1.2.1 (congrArg Value.int ((hpf.2.1).trans (own_img0 _ _ _ (by decide)))) A_pr) hZ (hw _ (List.mem_of_getElem? (i := 11) rfl)) (hw _ (List.mem_of_getElem? (i := 10) rfl)) (by decide) (by decide)) (g := (mkF m 270 #[.val (.int sh0), .val (.int pm0), .val (.int nd0), .val (.ref lp), .val (.int r_), .val (.int k_), .val (.ref pr), .val (.ref bf), .val (.int (1 : Int32)), .val (.int (-1 : Int32)), .val (.int (-1 : Int32)), .val (.int (-1 : Int32)), .val (.int (1 : Int32)), .unset, .unset] [(.int (own_f1 (1 : Int32) r_ k_)), (.ref pr)])) rfl (by rw [hml]; rfl) (argsL := [(.ref pr), (.int (own_f1 (1 : Int32) r_ k_))]) (rest := []) (lenOf own_pd_1 rfl) rfl (by show 2 * 0 + _ ≤ _; exact Nat.le_of_eq rfl) (hb hby at_270) (fun _ _ => ⟨rfl, e49, (by decide : 3 + 1 ≤ _), (by decide : 12 + 1 ≤ _)⟩)
      dsimp only [Pt.U, Pt.locs, Pt.cells, Pt.slots] at X50 l50 y50 z50 st50 hQ50
      subst l50 y50 z50
      obtain ⟨bb50, rfl, N50q, gb50, K50, fa50⟩ := hQ50
      have N50 := Fr.app N49 N50q
      have f51 := A_lp.keep K50 nin0
      have f52 := A_pr.keep K50 nin0
      have f53 := A_bf.keep K50 nin0
      have SZ50 : n0 ≤ T50.heap.size := Nat.le_trans Z0 K50.1
      refine own_by st50 ?_
      show own_Go p e below T50 (mkF m 273 #[.val (.int sh0), .val (.int pm0), .val (.int nd0), .val (.ref lp), .val (.int r_), .val (.int k_), .val (.ref pr), .val (.ref bf), .val (.int (1 : Int32)), .val (.int (-1 : Int32)), .val (.int (-1 : Int32)), .val (.int (-1 : Int32)), .val (.int (1 : Int32)), .unset, .unset] [(.ref bb50)]) _
      exact own_t1 hx hZ hw hby hml hown hnm hret hlk  sh0 pm0 nd0 r_ k_ (1 : Int32) (-1 : Int32) (-1 : Int32) (-1 : Int32) (own_f2 (-1 : Int32) r_ k_) (own_f2 (-1 : Int32) r_ k_) (own_f2 l2 r_ k_) (own_f2 l3 r_ k_) lp pr bf bb50 ((own_f1 (0 : Int32) r_ k_).toNatClampNeg) ((own_f1 (1 : Int32) r_ k_).toNatClampNeg) ((own_f1 (2 : Int32) r_ k_).toNatClampNeg) ((own_f1 (3 : Int32) r_ k_).toNatClampNeg) X50 rfl N50 SZ50 f52 f53 fa50
    ·
      show own_Go p e below T0 (mkF m 187 #[.val (.int sh0), .val (.int pm0), .val (.int nd0), .val (.ref lp), .val (.int r_), .val (.int k_), .val (.ref pr), .val (.ref bf), .val (.int (1 : Int32)), .unset, .unset, .unset, .unset, .unset, .unset] []) _
      refine own_s_aloadN X0.here hx (hb hby at_187) rfl rfl ?_
      refine own_s_iload X0.here hx (hb hby at_188) rfl ?_
      refine own_by (fun tq_ kq_ => own_ldI X0 hx hZ e0 A_lp (k := 1) (v := (.int (0 : Int32))) (by decide) (by decide) rfl (g := (mkF m 190 #[.val (.int sh0), .val (.int pm0), .val (.int nd0), .val (.ref lp), .val (.int r_), .val (.int k_), .val (.ref pr), .val (.ref bf), .val (.int (1 : Int32)), .unset, .unset, .unset, .unset, .unset, .unset] [(.int (1 : Int32)), (.ref lp)])) rfl rfl (hb hby at_190) tq_ kq_) ?_
      show own_Go p e below T0 (mkF m 191 #[.val (.int sh0), .val (.int pm0), .val (.int nd0), .val (.ref lp), .val (.int r_), .val (.int k_), .val (.ref pr), .val (.ref bf), .val (.int (1 : Int32)), .unset, .unset, .unset, .unset, .unset, .unset] [(.int (0 : Int32))]) _
      refine own_s_istore X0.here hx #[.val (.int sh0), .val (.int pm0), .val (.int nd0), .val (.ref lp), .val (.int r_), .val (.int k_), .val (.ref pr), .val (.ref bf), .val (.int (1 : Int32)), .val (.int (0 : Int32)), .unset, .unset, .unset, .unset, .unset] (hb hby at_191) rfl ?_
      refine own_s_iload X0.here hx (hb hby at_193) rfl ?_
      show own_Go p e below T0 (mkF m 195 #[.val (.int sh0), .val (.int pm0), .val (.int nd0), .val (.ref lp), .val (.int r_), .val (.int k_), .val (.ref pr), .val (.ref bf), .val (.int (1 : Int32)), .val (.int (0 : Int32)), .unset, .unset, .unset, .unset, .unset] [(.int (0 : Int32))]) _
      refine own_s_ifYes X0.here hx 202 (hb hby at_195) (Jvm.Free.XT.i0_ge_t ((by decide))) (by decide) (by decide) ?_
      refine own_s_aloadN X0.here hx (hb hby at_202) rfl rfl ?_
      refine own_s_iload X0.here hx (hb hby at_203) rfl ?_
      refine own_by (fun tq_ kq_ => own_ldI X0 hx hZ e0 A_lp (k := 0) (v := (.int (-1 : Int32))) (by decide) (by decide) rfl (g := (mkF m 205 #[.val (.int sh0), .val (.int pm0), .val (.int nd0), .val (.ref lp), .val (.int r_), .val (.int k_), .val (.ref pr), .val (.ref bf), .val (.int (1 : Int32)), .val (.int (0 : Int32)), .unset, .unset, .unset, .unset, .unset] [(.int (0 : Int32)), (.ref lp)])) rfl rfl (hb hby at_205) tq_ kq_) ?_
      show own_Go p e below T0 (mkF m 206 #[.val (.int sh0), .val (.int pm0), .val (.int nd0), .val (.ref lp), .val (.int r_), .val (.int k_), .val (.ref pr), .val (.ref bf), .val (.int (1 : Int32)), .val (.int (0 : Int32)), .unset, .unset, .unset, .unset, .unset] [(.int (-1 : Int32))]) _
      refine own_s_istore X0.here hx #[.val (.int sh0), .val (.int pm0), .val (.int nd0), .val (.ref lp), .val (.int r_), .val (.int k_), .val (.ref pr), .val (.ref bf), .val (.int (1 : Int32)), .val (.int (0 : Int32)), .val (.int (-1 : Int32)), .unset, .unset, .unset, .unset] (hb hby at_206) rfl ?_
      refine own_s_iload X0.here hx (hb hby at_208) rfl ?_
      refine own_s_ifNo X0.here hx (hb hby at_210) (Jvm.Free.XT.i0_ge_f ((by decide))) ?_
      refine own_s_iconst X0.here hx (-1 : Int32) (hb hby at_213) rfl ?_
      show own_Go p e below T0 (mkF m 214 #[.val (.int sh0), .val (.int pm0), .val (.int nd0), .val (.ref lp), .val (.int r_), .val (.int k_), .val (.ref pr), .val (.ref bf), .val (.int (1 : Int32)), .val (.int (0 : Int32)), .val (.int (-1 : Int32)), .unset, .unset, .unset, .unset] [(.int (-1 : Int32))]) _
      refine own_s_goto X0.here hx 221 (hb hby at_214) (by decide) (by decide) ?_
      refine own_s_istore X0.here hx #[.val (.int sh0), .val (.int pm0), .val (.int nd0), .val (.ref lp), .val (.int r_), .val (.int k_), .val (.ref pr), .val (.ref bf), .val (.int (1 : Int32)), .val (.int (0 : Int32)), .val (.int (-1 : Int32)), .val (.int (-1 : Int32)), .unset, .unset, .unset] (hb hby at_221) rfl ?_
      refine own_s_iconst X0.here hx (1 : Int32) (hb hby at_223) rfl ?_
      refine own_s_iload X0.here hx (hb hby at_224) rfl ?_
      refine own_s_ifNo X0.here hx (hb hby at_226) (Jvm.Free.XT.i0_lt_f ((by decide))) ?_
      refine own_s_iconst X0.here hx (1 : Int32) (hb hby at_229) rfl ?_
      show own_Go p e below T0 (mkF m 230 #[.val (.int sh0), .val (.int pm0), .val (.int nd0), .val (.ref lp), .val (.int r_), .val (.int k_), .val (.ref pr), .val (.ref bf), .val (.int (1 : Int32)), .val (.int (0 : Int32)), .val (.int (-1 : Int32)), .val (.int (-1 : Int32)), .unset, .unset, .unset] [(.int (1 : Int32)), (.int (1 : Int32))]) _
      refine own_s_goto X0.here hx 234 (hb hby at_230) (by decide) (by decide) ?_
      refine own_s_iadd X0.here hx (hb hby at_234) ?_
      refine own_s_iload X0.here hx (hb hby at_235) rfl ?_
      show own_Go p e below T0 (mkF m 237 #[.val (.int sh0), .val (.int pm0), .val (.int nd0), .val (.ref lp), .val (.int r_), .val (.int k_), .val (.ref pr), .val (.ref bf), .val (.int (1 : Int32)), .val (.int (0 : Int32)), .val (.int (-1 : Int32)), .val (.int (-1 : Int32)), .unset, .unset, .unset] [(.int (-1 : Int32)), (.int ((1 : Int32) + (1 : Int32)))]) _
      refine own_s_ifYes X0.here hx 244 (hb hby at_237) (Jvm.Free.XT.i0_lt_t ((by decide))) (by decide) (by decide) ?_
      refine own_s_iconst X0.here hx (0 : Int32) (hb hby at_244) rfl ?_
      refine own_s_iadd X0.here hx (hb hby at_245) ?_
      refine own_s_iload X0.here hx (hb hby at_246) rfl ?_
      show own_Go p e below T0 (mkF m 248 #[.val (.int sh0), .val (.int pm0), .val (.int nd0), .val (.ref lp), .val (.int r_), .val (.int k_), .val (.ref pr), .val (.ref bf), .val (.int (1 : Int32)), .val (.int (0 : Int32)), .val (.int (-1 : Int32)), .val (.int (-1 : Int32)), .unset, .unset, .unset] [(.int (-1 : Int32)), (.int (((1 : Int32) + (1 : Int32)) + (0 : Int32)))]) _
      refine own_s_ifYes X0.here hx 255 (hb hby at_248) (Jvm.Free.XT.i0_lt_t ((by decide))) (by decide) (by decide) ?_
      refine own_s_iconst X0.here hx (0 : Int32) (hb hby at_255) rfl ?_
      refine own_s_iadd X0.here hx (hb hby at_256) ?_
      show own_Go p e below T0 (mkF m 257 #[.val (.int sh0), .val (.int pm0), .val (.int nd0), .val (.ref lp), .val (.int r_), .val (.int k_), .val (.ref pr), .val (.ref bf), .val (.int (1 : Int32)), .val (.int (0 : Int32)), .val (.int (-1 : Int32)), .val (.int (-1 : Int32)), .unset, .unset, .unset] [(.int (2 : Int32))]) _
      refine own_s_istore X0.here hx #[.val (.int sh0), .val (.int pm0), .val (.int nd0), .val (.ref lp), .val (.int r_), .val (.int k_), .val (.ref pr), .val (.ref bf), .val (.int (1 : Int32)), .val (.int (0 : Int32)), .val (.int (-1 : Int32)), .val (.int (-1 : Int32)), .val (.int (2 : Int32)), .unset, .unset] (hb hby at_257) rfl ?_
      refine own_s_aload X0.here hx (hb hby at_259) rfl rfl ?_
      refine own_s_iload X0.here hx (hb hby at_261) rfl ?_
      refine own_s_iload X0.here hx (hb hby at_263) rfl ?_
      refine own_s_iload X0.here hx (hb hby at_265) rfl ?_
      obtain ⟨_, _, ⟨T54, L54, k54, n54⟩, -, X54, ⟨Lc54, hQ54, l54, y54, z54⟩, st54⟩ := Jvm.LawKit.callS X0 hx (y := (⟨"com/example/geodesic/geodesic/graph/ShortestPathsWalkPinLaw", "s", "(III)I"⟩ : MethodName)) hown (mvT hZ (hw _ (List.mem_of_getElem? (i := 1) rfl))) (mvT hZ (hw _ (List.mem_of_getElem? (i := 2) rfl))) (mvT hZ (hw _ (List.mem_of_getElem? (i := 3) rfl))) (mvT hZ (hw _ (List.mem_of_getElem? (i := 4) rfl))) (by decide) (backOf (W := 1) (own_r1 l Z a0 hw [] (1 : Int32) r_ k_  h0 n0 Z0 ) hZ (hw _ (List.mem_of_getElem? (i := 4) rfl)) (hw _ (List.mem_of_getElem? (i := 3) rfl)) (by decide) (by decide)) (g := (mkF m 267 #[.val (.int sh0), .val (.int pm0), .val (.int nd0), .val (.ref lp), .val (.int r_), .val (.int k_), .val (.ref pr), .val (.ref bf), .val (.int (1 : Int32)), .val (.int (0 : Int32)), .val (.int (-1 : Int32)), .val (.int (-1 : Int32)), .val (.int (2 : Int32)), .unset, .unset] [(.int k_), (.int r_), (.int (1 : Int32)), (.ref pr)])) rfl (by rw [hml]; rfl) (argsL := [(.int (1 : Int32)), (.int r_), (.int k_)]) (rest := [(.ref pr)]) (lenOf own_pd_0 rfl) rfl (by show 2 * 0 + _ ≤ _; exact Nat.le_of_eq rfl) (hb hby at_267) (fun _ _ => ⟨rfl, e0, (by decide : 3 + 0 ≤ _), (by decide : 12 + 0 ≤ _)⟩)
      dsimp only [Pt.U, Pt.locs, Pt.cells, Pt.slots] at X54 l54 y54 z54 st54 hQ54
      subst l54 y54 z54
      obtain ⟨rfl, N54q, e54⟩ := hQ54
      have N54 := Fr.app N0 N54q
      refine own_by st54 ?_
      show own_Go p e below T54 (mkF m 270 #[.val (.int sh0), .val (.int pm0), .val (.int nd0), .val (.ref lp), .val (.int r_), .val (.int k_), .val (.ref pr), .val (.ref bf), .val (.int (1 : Int32)), .val (.int (0 : Int32)), .val (.int (-1 : Int32)), .val (.int (-1 : Int32)), .val (.int (2 : Int32)), .unset, .unset] [(.int (own_f1 (1 : Int32) r_ k_)), (.ref pr)]) _
      obtain ⟨_, _, ⟨T55, L55, k55, n55⟩, -, X55, ⟨Lc55, hQ55, l55, y55, z55⟩, st55⟩ := Jvm.LawKit.callS X54 hx (y := (⟨"com/example/geodesic/geodesic/graph/ShortestPaths", "walk", "([II)[I"⟩ : MethodName)) hown (mvT hZ (hw _ (List.mem_of_getElem? (i := 8) rfl))) (mvT hZ (hw _ (List.mem_of_getElem? (i := 9) rfl))) (mvT hZ (hw _ (List.mem_of_getElem? (i := 10) rfl))) (mvT hZ (hw _ (List.mem_of_getElem? (i := 11) rfl))) (by decide) (backOf (W := 0) (own_wk2 l Z a0 hw [] pr (own_f1 (1 : Int32) r_ k_) (own_f1 (0 : Int32) r_ k_) ((own_f1 (1 : Int32) r_ k_).toNatClampNeg) ((own_f1 (0 : Int32) r_ k_).toNatClampNeg) (fun i => .int ((own_pf ((own_f1 (0 : Int32) r_ k_).toNatClampNeg) ((own_f1 (1 : Int32) r_ k_).toNatClampNeg) ((own_f1 (2 : Int32) r_ k_).toNatClampNeg) ((own_f1 (3 : Int32) r_ k_).toNatClampNeg) (own_f2 (-1 : Int32) r_ k_) (own_f2 (0 : Int32) r_ k_) (own_f2 l2 r_ k_) (own_f2 l3 r_ k_)) i)) h0 n0 Z0 ⟨f1.1, rfl⟩ f1.2.1 (congrArg Value.int ((hpf.2.1).trans (own_img _ _ _ (by decide)))) ⟨f0.1, rfl⟩ f0.2.1 (congrArg Value.int ((hpf.1).trans (own_img0 _ _ _ (by decide)))) f0.2.2 A_pr) hZ (hw _ (List.mem_of_getElem? (i := 11) rfl)) (hw _ (List.mem_of_getElem? (i := 10) rfl)) (by decide) (by decide)) (g := (mkF m 270 #[.val (.int sh0), .val (.int pm0), .val (.int nd0), .val (.ref lp), .val (.int r_), .val (.int k_), .val (.ref pr), .val (.ref bf), .val (.int (1 : Int32)), .val (.int (0 : Int32)), .val (.int (-1 : Int32)), .val (.int (-1 : Int32)), .val (.int (2 : Int32)), .unset, .unset] [(.int (own_f1 (1 : Int32) r_ k_)), (.ref pr)])) rfl (by rw [hml]; rfl) (argsL := [(.ref pr), (.int (own_f1 (1 : Int32) r_ k_))]) (rest := []) (lenOf own_pd_1 rfl) rfl (by show 2 * 0 + _ ≤ _; exact Nat.le_of_eq rfl) (hb hby at_270) (fun _ _ => ⟨rfl, e54, (by decide : 3 + 1 ≤ _), (by decide : 12 + 2 ≤ _)⟩)
      dsimp only [Pt.U, Pt.locs, Pt.cells, Pt.slots] at X55 l55 y55 z55 st55 hQ55
      subst l55 y55 z55
      obtain ⟨bb55, rfl, N55q, gb55, K55, fa55⟩ := hQ55
      have N55 := Fr.app N54 N55q
      have f56 := A_lp.keep K55 nin0
      have f57 := A_pr.keep K55 nin0
      have f58 := A_bf.keep K55 nin0
      have SZ55 : n0 ≤ T55.heap.size := Nat.le_trans Z0 K55.1
      refine own_by st55 ?_
      show own_Go p e below T55 (mkF m 273 #[.val (.int sh0), .val (.int pm0), .val (.int nd0), .val (.ref lp), .val (.int r_), .val (.int k_), .val (.ref pr), .val (.ref bf), .val (.int (1 : Int32)), .val (.int (0 : Int32)), .val (.int (-1 : Int32)), .val (.int (-1 : Int32)), .val (.int (2 : Int32)), .unset, .unset] [(.ref bb55)]) _
      exact own_t2 hx hZ hw hby hml hown hnm hret hlk  sh0 pm0 nd0 r_ k_ (1 : Int32) (0 : Int32) (-1 : Int32) (-1 : Int32) (own_f2 (-1 : Int32) r_ k_) (own_f2 (0 : Int32) r_ k_) (own_f2 l2 r_ k_) (own_f2 l3 r_ k_) lp pr bf bb55 ((own_f1 (0 : Int32) r_ k_).toNatClampNeg) ((own_f1 (1 : Int32) r_ k_).toNatClampNeg) ((own_f1 (2 : Int32) r_ k_).toNatClampNeg) ((own_f1 (3 : Int32) r_ k_).toNatClampNeg) X55 rfl N55 SZ55 f57 f58 fa55
  ·
    show own_Go p e below T0 (mkF m 187 #[.val (.int sh0), .val (.int pm0), .val (.int nd0), .val (.ref lp), .val (.int r_), .val (.int k_), .val (.ref pr), .val (.ref bf), .val (.int (2 : Int32)), .unset, .unset, .unset, .unset, .unset, .unset] []) _
    rcases hL2 with rfl | rfl | rfl
    ·
      show own_Go p e below T0 (mkF m 187 #[.val (.int sh0), .val (.int pm0), .val (.int nd0), .val (.ref lp), .val (.int r_), .val (.int k_), .val (.ref pr), .val (.ref bf), .val (.int (2 : Int32)), .unset, .unset, .unset, .unset, .unset, .unset] []) _
      refine own_s_aloadN X0.here hx (hb hby at_187) rfl rfl ?_
      refine own_s_iload X0.here hx (hb hby at_188) rfl ?_
      refine own_by (fun tq_ kq_ => own_ldI X0 hx hZ e0 A_lp (k := 2) (v := (.int (-1 : Int32))) (by decide) (by decide) rfl (g := (mkF m 190 #[.val (.int sh0), .val (.int pm0), .val (.int nd0), .val (.ref lp), .val (.int r_), .val (.int k_), .val (.ref pr), .val (.ref bf), .val (.int (2 : Int32)), .unset, .unset, .unset, .unset, .unset, .unset] [(.int (2 : Int32)), (.ref lp)])) rfl rfl (hb hby at_190) tq_ kq_) ?_
      show own_Go p e below T0 (mkF m 191 #[.val (.int sh0), .val (.int pm0), .val (.int nd0), .val (.ref lp), .val (.int r_), .val (.int k_), .val (.ref pr), .val (.ref bf), .val (.int (2 : Int32)), .unset, .unset, .unset, .unset, .unset, .unset] [(.int (-1 : Int32))]) _
      refine own_s_istore X0.here hx #[.val (.int sh0), .val (.int pm0), .val (.int nd0), .val (.ref lp), .val (.int r_), .val (.int k_), .val (.ref pr), .val (.ref bf), .val (.int (2 : Int32)), .val (.int (-1 : Int32)), .unset, .unset, .unset, .unset, .unset] (hb hby at_191) rfl ?_
      refine own_s_iload X0.here hx (hb hby at_193) rfl ?_
      refine own_s_ifNo X0.here hx (hb hby at_195) (Jvm.Free.XT.i0_ge_f ((by decide))) ?_
      refine own_s_iconst X0.here hx (-1 : Int32) (hb hby at_198) rfl ?_
      show own_Go p e below T0 (mkF m 199 #[.val (.int sh0), .val (.int pm0), .val (.int nd0), .val (.ref lp), .val (.int r_), .val (.int k_), .val (.ref pr), .val (.ref bf), .val (.int (2 : Int32)), .val (.int (-1 : Int32)), .unset, .unset, .unset, .unset, .unset] [(.int (-1 : Int32))]) _
      refine own_s_goto X0.here hx 206 (hb hby at_199) (by decide) (by decide) ?_
      refine own_s_istore X0.here hx #[.val (.int sh0), .val (.int pm0), .val (.int nd0), .val (.ref lp), .val (.int r_), .val (.int k_), .val (.ref pr), .val (.ref bf), .val (.int (2 : Int32)), .val (.int (-1 : Int32)), .val (.int (-1 : Int32)), .unset, .unset, .unset, .unset] (hb hby at_206) rfl ?_
      refine own_s_iload X0.here hx (hb hby at_208) rfl ?_
      refine own_s_ifNo X0.here hx (hb hby at_210) (Jvm.Free.XT.i0_ge_f ((by decide))) ?_
      refine own_s_iconst X0.here hx (-1 : Int32) (hb hby at_213) rfl ?_
      show own_Go p e below T0 (mkF m 214 #[.val (.int sh0), .val (.int pm0), .val (.int nd0), .val (.ref lp), .val (.int r_), .val (.int k_), .val (.ref pr), .val (.ref bf), .val (.int (2 : Int32)), .val (.int (-1 : Int32)), .val (.int (-1 : Int32)), .unset, .unset, .unset, .unset] [(.int (-1 : Int32))]) _
      refine own_s_goto X0.here hx 221 (hb hby at_214) (by decide) (by decide) ?_
      refine own_s_istore X0.here hx #[.val (.int sh0), .val (.int pm0), .val (.int nd0), .val (.ref lp), .val (.int r_), .val (.int k_), .val (.ref pr), .val (.ref bf), .val (.int (2 : Int32)), .val (.int (-1 : Int32)), .val (.int (-1 : Int32)), .val (.int (-1 : Int32)), .unset, .unset, .unset] (hb hby at_221) rfl ?_
      refine own_s_iconst X0.here hx (1 : Int32) (hb hby at_223) rfl ?_
      refine own_s_iload X0.here hx (hb hby at_224) rfl ?_
      show own_Go p e below T0 (mkF m 226 #[.val (.int sh0), .val (.int pm0), .val (.int nd0), .val (.ref lp), .val (.int r_), .val (.int k_), .val (.ref pr), .val (.ref bf), .val (.int (2 : Int32)), .val (.int (-1 : Int32)), .val (.int (-1 : Int32)), .val (.int (-1 : Int32)), .unset, .unset, .unset] [(.int (-1 : Int32)), (.int (1 : Int32))]) _
      refine own_s_ifYes X0.here hx 233 (hb hby at_226) (Jvm.Free.XT.i0_lt_t ((by decide))) (by decide) (by decide) ?_
      refine own_s_iconst X0.here hx (0 : Int32) (hb hby at_233) rfl ?_
      refine own_s_iadd X0.here hx (hb hby at_234) ?_
      refine own_s_iload X0.here hx (hb hby at_235) rfl ?_
      show own_Go p e below T0 (mkF m 237 #[.val (.int sh0), .val (.int pm0), .val (.int nd0), .val (.ref lp), .val (.int r_), .val (.int k_), .val (.ref pr), .val (.ref bf), .val (.int (2 : Int32)), .val (.int (-1 : Int32)), .val (.int (-1 : Int32)), .val (.int (-1 : Int32)), .unset, .unset, .unset] [(.int (-1 : Int32)), (.int ((1 : Int32) + (0 : Int32)))]) _
      refine own_s_ifYes X0.here hx 244 (hb hby at_237) (Jvm.Free.XT.i0_lt_t ((by decide))) (by decide) (by decide) ?_
      refine own_s_iconst X0.here hx (0 : Int32) (hb hby at_244) rfl ?_
      refine own_s_iadd X0.here hx (hb hby at_245) ?_
      refine own_s_iload X0.here hx (hb hby at_246) rfl ?_
      show own_Go p e below T0 (mkF m 248 #[.val (.int sh0), .val (.int pm0), .val (.int nd0), .val (.ref lp), .val (.int r_), .val (.int k_), .val (.ref pr), .val (.ref bf), .val (.int (2 : Int32)), .val (.int (-1 : Int32)), .val (.int (-1 : Int32)), .val (.int (-1 : Int32)), .unset, .unset, .unset] [(.int (-1 : Int32)), (.int (((1 : Int32) + (0 : Int32)) + (0 : Int32)))]) _
      refine own_s_ifYes X0.here hx 255 (hb hby at_248) (Jvm.Free.XT.i0_lt_t ((by decide))) (by decide) (by decide) ?_
      refine own_s_iconst X0.here hx (0 : Int32) (hb hby at_255) rfl ?_
      refine own_s_iadd X0.here hx (hb hby at_256) ?_
      show own_Go p e below T0 (mkF m 257 #[.val (.int sh0), .val (.int pm0), .val (.int nd0), .val (.ref lp), .val (.int r_), .val (.int k_), .val (.ref pr), .val (.ref bf), .val (.int (2 : Int32)), .val (.int (-1 : Int32)), .val (.int (-1 : Int32)), .val (.int (-1 : Int32)), .unset, .unset, .unset] [(.int (1 : Int32))]) _
      refine own_s_istore X0.here hx #[.val (.int sh0), .val (.int pm0), .val (.int nd0), .val (.ref lp), .val (.int r_), .val (.int k_), .val (.ref pr), .val (.ref bf), .val (.int (2 : Int32)), .val (.int (-1 : Int32)), .val (.int (-1 : Int32)), .val (.int (-1 : Int32)), .val (.int (1 : Int32)), .unset, .unset] (hb hby at_257) rfl ?_
      refine own_s_aload X0.here hx (hb hby at_259) rfl rfl ?_
      refine own_s_iload X0.here hx (hb hby at_261) rfl ?_
      refine own_s_iload X0.here hx (hb hby at_263) rfl ?_
      refine own_s_iload X0.here hx (hb hby at_265) rfl ?_
      obtain ⟨_, _, ⟨T59, L59, k59, n59⟩, -, X59, ⟨Lc59, hQ59, l59, y59, z59⟩, st59⟩ := Jvm.LawKit.callS X0 hx (y := (⟨"com/example/geodesic/geodesic/graph/ShortestPathsWalkPinLaw", "s", "(III)I"⟩ : MethodName)) hown (mvT hZ (hw _ (List.mem_of_getElem? (i := 1) rfl))) (mvT hZ (hw _ (List.mem_of_getElem? (i := 2) rfl))) (mvT hZ (hw _ (List.mem_of_getElem? (i := 3) rfl))) (mvT hZ (hw _ (List.mem_of_getElem? (i := 4) rfl))) (by decide) (backOf (W := 1) (own_r1 l Z a0 hw [] (2 : Int32) r_ k_  h0 n0 Z0 ) hZ (hw _ (List.mem_of_getElem? (i := 4) rfl)) (hw _ (List.mem_of_getElem? (i := 3) rfl)) (by decide) (by decide)) (g := (mkF m 267 #[.val (.int sh0), .val (.int pm0), .val (.int nd0), .val (.ref lp), .val (.int r_), .val (.int k_), .val (.ref pr), .val (.ref bf), .val (.int (2 : Int32)), .val (.int (-1 : Int32)), .val (.int (-1 : Int32)), .val (.int (-1 : Int32)), .val (.int (1 : Int32)), .unset, .unset] [(.int k_), (.int r_), (.int (2 : Int32)), (.ref pr)])) rfl (by rw [hml]; rfl) (argsL := [(.int (2 : Int32)), (.int r_), (.int k_)]) (rest := [(.ref pr)]) (lenOf own_pd_0 rfl) rfl (by show 2 * 0 + _ ≤ _; exact Nat.le_of_eq rfl) (hb hby at_267) (fun _ _ => ⟨rfl, e0, (by decide : 3 + 0 ≤ _), (by decide : 12 + 0 ≤ _)⟩)
      dsimp only [Pt.U, Pt.locs, Pt.cells, Pt.slots] at X59 l59 y59 z59 st59 hQ59
      subst l59 y59 z59
      obtain ⟨rfl, N59q, e59⟩ := hQ59
      have N59 := Fr.app N0 N59q
      refine own_by st59 ?_
      show own_Go p e below T59 (mkF m 270 #[.val (.int sh0), .val (.int pm0), .val (.int nd0), .val (.ref lp), .val (.int r_), .val (.int k_), .val (.ref pr), .val (.ref bf), .val (.int (2 : Int32)), .val (.int (-1 : Int32)), .val (.int (-1 : Int32)), .val (.int (-1 : Int32)), .val (.int (1 : Int32)), .unset, .unset] [(.int (own_f1 (2 : Int32) r_ k_)), (.ref pr)]) _
      obtain ⟨_, _, ⟨T60, L60, k60, n60⟩, -, X60, ⟨Lc60, hQ60, l60, y60, z60⟩, st60⟩ := Jvm.LawKit.callS X59 hx (y := (⟨"com/example/geodesic/geodesic/graph/ShortestPaths", "walk", "([II)[I"⟩ : MethodName)) hown (mvT hZ (hw _ (List.mem_of_getElem? (i := 8) rfl))) (mvT hZ (hw _ (List.mem_of_getElem? (i := 9) rfl))) (mvT hZ (hw _ (List.mem_of_getElem? (i := 10) rfl))) (mvT hZ (hw _ (List.mem_of_getElem? (i := 11) rfl))) (by decide) (backOf (W := 0) (own_wk1 l Z a0 hw [] pr (own_f1 (2 : Int32) r_ k_) ((own_f1 (2 : Int32) r_ k_).toNatClampNeg) (fun i => .int ((own_pf ((own_f1 (0 : Int32) r_ k_).toNatClampNeg) ((own_f1 (1 : Int32) r_ k_).toNatClampNeg) ((own_f1 (2 : Int32) r_ k_).toNatClampNeg) ((own_f1 (3 : Int32) r_ k_).toNatClampNeg) (own_f2 (-1 : Int32) r_ k_) (own_f2 l1 r_ k_) (own_f2 (-1 : Int32) r_ k_) (own_f2 l3 r_ k_)) i)) h0 n0 Z0 ⟨f2.1, rfl⟩ f2.2.1 (congrArg Value.int ((hpf.2.2.1).trans (own_img0 _ _ _ (by decide)))) A_pr) hZ (hw _ (List.mem_of_getElem? (i := 11) rfl)) (hw _ (List.mem_of_getElem? (i := 10) rfl)) (by decide) (by decide)) (g := (mkF m 270 #[.val (.int sh0), .val (.int pm0), .val (.int nd0), .val (.ref lp), .val (.int r_), .val (.int k_), .val (.ref pr), .val (.ref bf), .val (.int (2 : Int32)), .val (.int (-1 : Int32)), .val (.int (-1 : Int32)), .val (.int (-1 : Int32)), .val (.int (1 : Int32)), .unset, .unset] [(.int (own_f1 (2 : Int32) r_ k_)), (.ref pr)])) rfl (by rw [hml]; rfl) (argsL := [(.ref pr), (.int (own_f1 (2 : Int32) r_ k_))]) (rest := []) (lenOf own_pd_1 rfl) rfl (by show 2 * 0 + _ ≤ _; exact Nat.le_of_eq rfl) (hb hby at_270) (fun _ _ => ⟨rfl, e59, (by decide : 3 + 1 ≤ _), (by decide : 12 + 1 ≤ _)⟩)
      dsimp only [Pt.U, Pt.locs, Pt.cells, Pt.slots] at X60 l60 y60 z60 st60 hQ60
      subst l60 y60 z60
      obtain ⟨bb60, rfl, N60q, gb60, K60, fa60⟩ := hQ60
      have N60 := Fr.app N59 N60q
      have f61 := A_lp.keep K60 nin0
      have f62 := A_pr.keep K60 nin0
      have f63 := A_bf.keep K60 nin0
      have SZ60 : n0 ≤ T60.heap.size := Nat.le_trans Z0 K60.1
      refine own_by st60 ?_
      show own_Go p e below T60 (mkF m 273 #[.val (.int sh0), .val (.int pm0), .val (.int nd0), .val (.ref lp), .val (.int r_), .val (.int k_), .val (.ref pr), .val (.ref bf), .val (.int (2 : Int32)), .val (.int (-1 : Int32)), .val (.int (-1 : Int32)), .val (.int (-1 : Int32)), .val (.int (1 : Int32)), .unset, .unset] [(.ref bb60)]) _
      exact own_t1 hx hZ hw hby hml hown hnm hret hlk  sh0 pm0 nd0 r_ k_ (2 : Int32) (-1 : Int32) (-1 : Int32) (-1 : Int32) (own_f2 (-1 : Int32) r_ k_) (own_f2 l1 r_ k_) (own_f2 (-1 : Int32) r_ k_) (own_f2 l3 r_ k_) lp pr bf bb60 ((own_f1 (0 : Int32) r_ k_).toNatClampNeg) ((own_f1 (1 : Int32) r_ k_).toNatClampNeg) ((own_f1 (2 : Int32) r_ k_).toNatClampNeg) ((own_f1 (3 : Int32) r_ k_).toNatClampNeg) X60 rfl N60 SZ60 f62 f63 fa60
    ·
      show own_Go p e below T0 (mkF m 187 #[.val (.int sh0), .val (.int pm0), .val (.int nd0), .val (.ref lp), .val (.int r_), .val (.int k_), .val (.ref pr), .val (.ref bf), .val (.int (2 : Int32)), .unset, .unset, .unset, .unset, .unset, .unset] []) _
      refine own_s_aloadN X0.here hx (hb hby at_187) rfl rfl ?_
      refine own_s_iload X0.here hx (hb hby at_188) rfl ?_
      refine own_by (fun tq_ kq_ => own_ldI X0 hx hZ e0 A_lp (k := 2) (v := (.int (0 : Int32))) (by decide) (by decide) rfl (g := (mkF m 190 #[.val (.int sh0), .val (.int pm0), .val (.int nd0), .val (.ref lp), .val (.int r_), .val (.int k_), .val (.ref pr), .val (.ref bf), .val (.int (2 : Int32)), .unset, .unset, .unset, .unset, .unset, .unset] [(.int (2 : Int32)), (.ref lp)])) rfl rfl (hb hby at_190) tq_ kq_) ?_
      show own_Go p e below T0 (mkF m 191 #[.val (.int sh0), .val (.int pm0), .val (.int nd0), .val (.ref lp), .val (.int r_), .val (.int k_), .val (.ref pr), .val (.ref bf), .val (.int (2 : Int32)), .unset, .unset, .unset, .unset, .unset, .unset] [(.int (0 : Int32))]) _
      refine own_s_istore X0.here hx #[.val (.int sh0), .val (.int pm0), .val (.int nd0), .val (.ref lp), .val (.int r_), .val (.int k_), .val (.ref pr), .val (.ref bf), .val (.int (2 : Int32)), .val (.int (0 : Int32)), .unset, .unset, .unset, .unset, .unset] (hb hby at_191) rfl ?_
      refine own_s_iload X0.here hx (hb hby at_193) rfl ?_
      show own_Go p e below T0 (mkF m 195 #[.val (.int sh0), .val (.int pm0), .val (.int nd0), .val (.ref lp), .val (.int r_), .val (.int k_), .val (.ref pr), .val (.ref bf), .val (.int (2 : Int32)), .val (.int (0 : Int32)), .unset, .unset, .unset, .unset, .unset] [(.int (0 : Int32))]) _
      refine own_s_ifYes X0.here hx 202 (hb hby at_195) (Jvm.Free.XT.i0_ge_t ((by decide))) (by decide) (by decide) ?_
      refine own_s_aloadN X0.here hx (hb hby at_202) rfl rfl ?_
      refine own_s_iload X0.here hx (hb hby at_203) rfl ?_
      refine own_by (fun tq_ kq_ => own_ldI X0 hx hZ e0 A_lp (k := 0) (v := (.int (-1 : Int32))) (by decide) (by decide) rfl (g := (mkF m 205 #[.val (.int sh0), .val (.int pm0), .val (.int nd0), .val (.ref lp), .val (.int r_), .val (.int k_), .val (.ref pr), .val (.ref bf), .val (.int (2 : Int32)), .val (.int (0 : Int32)), .unset, .unset, .unset, .unset, .unset] [(.int (0 : Int32)), (.ref lp)])) rfl rfl (hb hby at_205) tq_ kq_) ?_
      show own_Go p e below T0 (mkF m 206 #[.val (.int sh0), .val (.int pm0), .val (.int nd0), .val (.ref lp), .val (.int r_), .val (.int k_), .val (.ref pr), .val (.ref bf), .val (.int (2 : Int32)), .val (.int (0 : Int32)), .unset, .unset, .unset, .unset, .unset] [(.int (-1 : Int32))]) _
      refine own_s_istore X0.here hx #[.val (.int sh0), .val (.int pm0), .val (.int nd0), .val (.ref lp), .val (.int r_), .val (.int k_), .val (.ref pr), .val (.ref bf), .val (.int (2 : Int32)), .val (.int (0 : Int32)), .val (.int (-1 : Int32)), .unset, .unset, .unset, .unset] (hb hby at_206) rfl ?_
      refine own_s_iload X0.here hx (hb hby at_208) rfl ?_
      refine own_s_ifNo X0.here hx (hb hby at_210) (Jvm.Free.XT.i0_ge_f ((by decide))) ?_
      refine own_s_iconst X0.here hx (-1 : Int32) (hb hby at_213) rfl ?_
      show own_Go p e below T0 (mkF m 214 #[.val (.int sh0), .val (.int pm0), .val (.int nd0), .val (.ref lp), .val (.int r_), .val (.int k_), .val (.ref pr), .val (.ref bf), .val (.int (2 : Int32)), .val (.int (0 : Int32)), .val (.int (-1 : Int32)), .unset, .unset, .unset, .unset] [(.int (-1 : Int32))]) _
      refine own_s_goto X0.here hx 221 (hb hby at_214) (by decide) (by decide) ?_
      refine own_s_istore X0.here hx #[.val (.int sh0), .val (.int pm0), .val (.int nd0), .val (.ref lp), .val (.int r_), .val (.int k_), .val (.ref pr), .val (.ref bf), .val (.int (2 : Int32)), .val (.int (0 : Int32)), .val (.int (-1 : Int32)), .val (.int (-1 : Int32)), .unset, .unset, .unset] (hb hby at_221) rfl ?_
      refine own_s_iconst X0.here hx (1 : Int32) (hb hby at_223) rfl ?_
      refine own_s_iload X0.here hx (hb hby at_224) rfl ?_
      refine own_s_ifNo X0.here hx (hb hby at_226) (Jvm.Free.XT.i0_lt_f ((by decide))) ?_
      refine own_s_iconst X0.here hx (1 : Int32) (hb hby at_229) rfl ?_
      show own_Go p e below T0 (mkF m 230 #[.val (.int sh0), .val (.int pm0), .val (.int nd0), .val (.ref lp), .val (.int r_), .val (.int k_), .val (.ref pr), .val (.ref bf), .val (.int (2 : Int32)), .val (.int (0 : Int32)), .val (.int (-1 : Int32)), .val (.int (-1 : Int32)), .unset, .unset, .unset] [(.int (1 : Int32)), (.int (1 : Int32))]) _
      refine own_s_goto X0.here hx 234 (hb hby at_230) (by decide) (by decide) ?_
      refine own_s_iadd X0.here hx (hb hby at_234) ?_
      refine own_s_iload X0.here hx (hb hby at_235) rfl ?_
      show own_Go p e below T0 (mkF m 237 #[.val (.int sh0), .val (.int pm0), .val (.int nd0), .val (.ref lp), .val (.int r_), .val (.int k_), .val (.ref pr), .val (.ref bf), .val (.int (2 : Int32)), .val (.int (0 : Int32)), .val (.int (-1 : Int32)), .val (.int (-1 : Int32)), .unset, .unset, .unset] [(.int (-1 : Int32)), (.int ((1 : Int32) + (1 : Int32)))]) _
      refine own_s_ifYes X0.here hx 244 (hb hby at_237) (Jvm.Free.XT.i0_lt_t ((by decide))) (by decide) (by decide) ?_
      refine own_s_iconst X0.here hx (0 : Int32) (hb hby at_244) rfl ?_
      refine own_s_iadd X0.here hx (hb hby at_245) ?_
      refine own_s_iload X0.here hx (hb hby at_246) rfl ?_
      show own_Go p e below T0 (mkF m 248 #[.val (.int sh0), .val (.int pm0), .val (.int nd0), .val (.ref lp), .val (.int r_), .val (.int k_), .val (.ref pr), .val (.ref bf), .val (.int (2 : Int32)), .val (.int (0 : Int32)), .val (.int (-1 : Int32)), .val (.int (-1 : Int32)), .unset, .unset, .unset] [(.int (-1 : Int32)), (.int (((1 : Int32) + (1 : Int32)) + (0 : Int32)))]) _
      refine own_s_ifYes X0.here hx 255 (hb hby at_248) (Jvm.Free.XT.i0_lt_t ((by decide))) (by decide) (by decide) ?_
      refine own_s_iconst X0.here hx (0 : Int32) (hb hby at_255) rfl ?_
      refine own_s_iadd X0.here hx (hb hby at_256) ?_
      show own_Go p e below T0 (mkF m 257 #[.val (.int sh0), .val (.int pm0), .val (.int nd0), .val (.ref lp), .val (.int r_), .val (.int k_), .val (.ref pr), .val (.ref bf), .val (.int (2 : Int32)), .val (.int (0 : Int32)), .val (.int (-1 : Int32)), .val (.int (-1 : Int32)), .unset, .unset, .unset] [(.int (2 : Int32))]) _
      refine own_s_istore X0.here hx #[.val (.int sh0), .val (.int pm0), .val (.int nd0), .val (.ref lp), .val (.int r_), .val (.int k_), .val (.ref pr), .val (.ref bf), .val (.int (2 : Int32)), .val (.int (0 : Int32)), .val (.int (-1 : Int32)), .val (.int (-1 : Int32)), .val (.int (2 : Int32)), .unset, .unset] (hb hby at_257) rfl ?_
      refine own_s_aload X0.here hx (hb hby at_259) rfl rfl ?_
      refine own_s_iload X0.here hx (hb hby at_261) rfl ?_
      refine own_s_iload X0.here hx (hb hby at_263) rfl ?_
      refine own_s_iload X0.here hx (hb hby at_265) rfl ?_
      obtain ⟨_, _, ⟨T64, L64, k64, n64⟩, -, X64, ⟨Lc64, hQ64, l64, y64, z64⟩, st64⟩ := Jvm.LawKit.callS X0 hx (y := (⟨"com/example/geodesic/geodesic/graph/ShortestPathsWalkPinLaw", "s", "(III)I"⟩ : MethodName)) hown (mvT hZ (hw _ (List.mem_of_getElem? (i := 1) rfl))) (mvT hZ (hw _ (List.mem_of_getElem? (i := 2) rfl))) (mvT hZ (hw _ (List.mem_of_getElem? (i := 3) rfl))) (mvT hZ (hw _ (List.mem_of_getElem? (i := 4) rfl))) (by decide) (backOf (W := 1) (own_r1 l Z a0 hw [] (2 : Int32) r_ k_  h0 n0 Z0 ) hZ (hw _ (List.mem_of_getElem? (i := 4) rfl)) (hw _ (List.mem_of_getElem? (i := 3) rfl)) (by decide) (by decide)) (g := (mkF m 267 #[.val (.int sh0), .val (.int pm0), .val (.int nd0), .val (.ref lp), .val (.int r_), .val (.int k_), .val (.ref pr), .val (.ref bf), .val (.int (2 : Int32)), .val (.int (0 : Int32)), .val (.int (-1 : Int32)), .val (.int (-1 : Int32)), .val (.int (2 : Int32)), .unset, .unset] [(.int k_), (.int r_), (.int (2 : Int32)), (.ref pr)])) rfl (by rw [hml]; rfl) (argsL := [(.int (2 : Int32)), (.int r_), (.int k_)]) (rest := [(.ref pr)]) (lenOf own_pd_0 rfl) rfl (by show 2 * 0 + _ ≤ _; exact Nat.le_of_eq rfl) (hb hby at_267) (fun _ _ => ⟨rfl, e0, (by decide : 3 + 0 ≤ _), (by decide : 12 + 0 ≤ _)⟩)
      dsimp only [Pt.U, Pt.locs, Pt.cells, Pt.slots] at X64 l64 y64 z64 st64 hQ64
      subst l64 y64 z64
      obtain ⟨rfl, N64q, e64⟩ := hQ64
      have N64 := Fr.app N0 N64q
      refine own_by st64 ?_
      show own_Go p e below T64 (mkF m 270 #[.val (.int sh0), .val (.int pm0), .val (.int nd0), .val (.ref lp), .val (.int r_), .val (.int k_), .val (.ref pr), .val (.ref bf), .val (.int (2 : Int32)), .val (.int (0 : Int32)), .val (.int (-1 : Int32)), .val (.int (-1 : Int32)), .val (.int (2 : Int32)), .unset, .unset] [(.int (own_f1 (2 : Int32) r_ k_)), (.ref pr)]) _
      obtain ⟨_, _, ⟨T65, L65, k65, n65⟩, -, X65, ⟨Lc65, hQ65, l65, y65, z65⟩, st65⟩ := Jvm.LawKit.callS X64 hx (y := (⟨"com/example/geodesic/geodesic/graph/ShortestPaths", "walk", "([II)[I"⟩ : MethodName)) hown (mvT hZ (hw _ (List.mem_of_getElem? (i := 8) rfl))) (mvT hZ (hw _ (List.mem_of_getElem? (i := 9) rfl))) (mvT hZ (hw _ (List.mem_of_getElem? (i := 10) rfl))) (mvT hZ (hw _ (List.mem_of_getElem? (i := 11) rfl))) (by decide) (backOf (W := 0) (own_wk2 l Z a0 hw [] pr (own_f1 (2 : Int32) r_ k_) (own_f1 (0 : Int32) r_ k_) ((own_f1 (2 : Int32) r_ k_).toNatClampNeg) ((own_f1 (0 : Int32) r_ k_).toNatClampNeg) (fun i => .int ((own_pf ((own_f1 (0 : Int32) r_ k_).toNatClampNeg) ((own_f1 (1 : Int32) r_ k_).toNatClampNeg) ((own_f1 (2 : Int32) r_ k_).toNatClampNeg) ((own_f1 (3 : Int32) r_ k_).toNatClampNeg) (own_f2 (-1 : Int32) r_ k_) (own_f2 l1 r_ k_) (own_f2 (0 : Int32) r_ k_) (own_f2 l3 r_ k_)) i)) h0 n0 Z0 ⟨f2.1, rfl⟩ f2.2.1 (congrArg Value.int ((hpf.2.2.1).trans (own_img _ _ _ (by decide)))) ⟨f0.1, rfl⟩ f0.2.1 (congrArg Value.int ((hpf.1).trans (own_img0 _ _ _ (by decide)))) f0.2.2 A_pr) hZ (hw _ (List.mem_of_getElem? (i := 11) rfl)) (hw _ (List.mem_of_getElem? (i := 10) rfl)) (by decide) (by decide)) (g := (mkF m 270 #[.val (.int sh0), .val (.int pm0), .val (.int nd0), .val (.ref lp), .val (.int r_), .val (.int k_), .val (.ref pr), .val (.ref bf), .val (.int (2 : Int32)), .val (.int (0 : Int32)), .val (.int (-1 : Int32)), .val (.int (-1 : Int32)), .val (.int (2 : Int32)), .unset, .unset] [(.int (own_f1 (2 : Int32) r_ k_)), (.ref pr)])) rfl (by rw [hml]; rfl) (argsL := [(.ref pr), (.int (own_f1 (2 : Int32) r_ k_))]) (rest := []) (lenOf own_pd_1 rfl) rfl (by show 2 * 0 + _ ≤ _; exact Nat.le_of_eq rfl) (hb hby at_270) (fun _ _ => ⟨rfl, e64, (by decide : 3 + 1 ≤ _), (by decide : 12 + 2 ≤ _)⟩)
      dsimp only [Pt.U, Pt.locs, Pt.cells, Pt.slots] at X65 l65 y65 z65 st65 hQ65
      subst l65 y65 z65
      obtain ⟨bb65, rfl, N65q, gb65, K65, fa65⟩ := hQ65
      have N65 := Fr.app N64 N65q
      have f66 := A_lp.keep K65 nin0
      have f67 := A_pr.keep K65 nin0
      have f68 := A_bf.keep K65 nin0
      have SZ65 : n0 ≤ T65.heap.size := Nat.le_trans Z0 K65.1
      refine own_by st65 ?_
      show own_Go p e below T65 (mkF m 273 #[.val (.int sh0), .val (.int pm0), .val (.int nd0), .val (.ref lp), .val (.int r_), .val (.int k_), .val (.ref pr), .val (.ref bf), .val (.int (2 : Int32)), .val (.int (0 : Int32)), .val (.int (-1 : Int32)), .val (.int (-1 : Int32)), .val (.int (2 : Int32)), .unset, .unset] [(.ref bb65)]) _
      exact own_t2 hx hZ hw hby hml hown hnm hret hlk  sh0 pm0 nd0 r_ k_ (2 : Int32) (0 : Int32) (-1 : Int32) (-1 : Int32) (own_f2 (-1 : Int32) r_ k_) (own_f2 l1 r_ k_) (own_f2 (0 : Int32) r_ k_) (own_f2 l3 r_ k_) lp pr bf bb65 ((own_f1 (0 : Int32) r_ k_).toNatClampNeg) ((own_f1 (1 : Int32) r_ k_).toNatClampNeg) ((own_f1 (2 : Int32) r_ k_).toNatClampNeg) ((own_f1 (3 : Int32) r_ k_).toNatClampNeg) X65 rfl N65 SZ65 f67 f68 fa65
    ·
      show own_Go p e below T0 (mkF m 187 #[.val (.int sh0), .val (.int pm0), .val (.int nd0), .val (.ref lp), .val (.int r_), .val (.int k_), .val (.ref pr), .val (.ref bf), .val (.int (2 : Int32)), .unset, .unset, .unset, .unset, .unset, .unset] []) _
      rcases hL1 with rfl | rfl
      ·
        show own_Go p e below T0 (mkF m 187 #[.val (.int sh0), .val (.int pm0), .val (.int nd0), .val (.ref lp), .val (.int r_), .val (.int k_), .val (.ref pr), .val (.ref bf), .val (.int (2 : Int32)), .unset, .unset, .unset, .unset, .unset, .unset] []) _
        refine own_s_aloadN X0.here hx (hb hby at_187) rfl rfl ?_
        refine own_s_iload X0.here hx (hb hby at_188) rfl ?_
        refine own_by (fun tq_ kq_ => own_ldI X0 hx hZ e0 A_lp (k := 2) (v := (.int (1 : Int32))) (by decide) (by decide) rfl (g := (mkF m 190 #[.val (.int sh0), .val (.int pm0), .val (.int nd0), .val (.ref lp), .val (.int r_), .val (.int k_), .val (.ref pr), .val (.ref bf), .val (.int (2 : Int32)), .unset, .unset, .unset, .unset, .unset, .unset] [(.int (2 : Int32)), (.ref lp)])) rfl rfl (hb hby at_190) tq_ kq_) ?_
        show own_Go p e below T0 (mkF m 191 #[.val (.int sh0), .val (.int pm0), .val (.int nd0), .val (.ref lp), .val (.int r_), .val (.int k_), .val (.ref pr), .val (.ref bf), .val (.int (2 : Int32)), .unset, .unset, .unset, .unset, .unset, .unset] [(.int (1 : Int32))]) _
        refine own_s_istore X0.here hx #[.val (.int sh0), .val (.int pm0), .val (.int nd0), .val (.ref lp), .val (.int r_), .val (.int k_), .val (.ref pr), .val (.ref bf), .val (.int (2 : Int32)), .val (.int (1 : Int32)), .unset, .unset, .unset, .unset, .unset] (hb hby at_191) rfl ?_
        refine own_s_iload X0.here hx (hb hby at_193) rfl ?_
        show own_Go p e below T0 (mkF m 195 #[.val (.int sh0), .val (.int pm0), .val (.int nd0), .val (.ref lp), .val (.int r_), .val (.int k_), .val (.ref pr), .val (.ref bf), .val (.int (2 : Int32)), .val (.int (1 : Int32)), .unset, .unset, .unset, .unset, .unset] [(.int (1 : Int32))]) _
        refine own_s_ifYes X0.here hx 202 (hb hby at_195) (Jvm.Free.XT.i0_ge_t ((by decide))) (by decide) (by decide) ?_
        refine own_s_aloadN X0.here hx (hb hby at_202) rfl rfl ?_
        refine own_s_iload X0.here hx (hb hby at_203) rfl ?_
        refine own_by (fun tq_ kq_ => own_ldI X0 hx hZ e0 A_lp (k := 1) (v := (.int (-1 : Int32))) (by decide) (by decide) rfl (g := (mkF m 205 #[.val (.int sh0), .val (.int pm0), .val (.int nd0), .val (.ref lp), .val (.int r_), .val (.int k_), .val (.ref pr), .val (.ref bf), .val (.int (2 : Int32)), .val (.int (1 : Int32)), .unset, .unset, .unset, .unset, .unset] [(.int (1 : Int32)), (.ref lp)])) rfl rfl (hb hby at_205) tq_ kq_) ?_
        show own_Go p e below T0 (mkF m 206 #[.val (.int sh0), .val (.int pm0), .val (.int nd0), .val (.ref lp), .val (.int r_), .val (.int k_), .val (.ref pr), .val (.ref bf), .val (.int (2 : Int32)), .val (.int (1 : Int32)), .unset, .unset, .unset, .unset, .unset] [(.int (-1 : Int32))]) _
        refine own_s_istore X0.here hx #[.val (.int sh0), .val (.int pm0), .val (.int nd0), .val (.ref lp), .val (.int r_), .val (.int k_), .val (.ref pr), .val (.ref bf), .val (.int (2 : Int32)), .val (.int (1 : Int32)), .val (.int (-1 : Int32)), .unset, .unset, .unset, .unset] (hb hby at_206) rfl ?_
        refine own_s_iload X0.here hx (hb hby at_208) rfl ?_
        refine own_s_ifNo X0.here hx (hb hby at_210) (Jvm.Free.XT.i0_ge_f ((by decide))) ?_
        refine own_s_iconst X0.here hx (-1 : Int32) (hb hby at_213) rfl ?_
        show own_Go p e below T0 (mkF m 214 #[.val (.int sh0), .val (.int pm0), .val (.int nd0), .val (.ref lp), .val (.int r_), .val (.int k_), .val (.ref pr), .val (.ref bf), .val (.int (2 : Int32)), .val (.int (1 : Int32)), .val (.int (-1 : Int32)), .unset, .unset, .unset, .unset] [(.int (-1 : Int32))]) _
        refine own_s_goto X0.here hx 221 (hb hby at_214) (by decide) (by decide) ?_
        refine own_s_istore X0.here hx #[.val (.int sh0), .val (.int pm0), .val (.int nd0), .val (.ref lp), .val (.int r_), .val (.int k_), .val (.ref pr), .val (.ref bf), .val (.int (2 : Int32)), .val (.int (1 : Int32)), .val (.int (-1 : Int32)), .val (.int (-1 : Int32)), .unset, .unset, .unset] (hb hby at_221) rfl ?_
        refine own_s_iconst X0.here hx (1 : Int32) (hb hby at_223) rfl ?_
        refine own_s_iload X0.here hx (hb hby at_224) rfl ?_
        refine own_s_ifNo X0.here hx (hb hby at_226) (Jvm.Free.XT.i0_lt_f ((by decide))) ?_
        refine own_s_iconst X0.here hx (1 : Int32) (hb hby at_229) rfl ?_
        show own_Go p e below T0 (mkF m 230 #[.val (.int sh0), .val (.int pm0), .val (.int nd0), .val (.ref lp), .val (.int r_), .val (.int k_), .val (.ref pr), .val (.ref bf), .val (.int (2 : Int32)), .val (.int (1 : Int32)), .val (.int (-1 : Int32)), .val (.int (-1 : Int32)), .unset, .unset, .unset] [(.int (1 : Int32)), (.int (1 : Int32))]) _
        refine own_s_goto X0.here hx 234 (hb hby at_230) (by decide) (by decide) ?_
        refine own_s_iadd X0.here hx (hb hby at_234) ?_
        refine own_s_iload X0.here hx (hb hby at_235) rfl ?_
        show own_Go p e below T0 (mkF m 237 #[.val (.int sh0), .val (.int pm0), .val (.int nd0), .val (.ref lp), .val (.int r_), .val (.int k_), .val (.ref pr), .val (.ref bf), .val (.int (2 : Int32)), .val (.int (1 : Int32)), .val (.int (-1 : Int32)), .val (.int (-1 : Int32)), .unset, .unset, .unset] [(.int (-1 : Int32)), (.int ((1 : Int32) + (1 : Int32)))]) _
        refine own_s_ifYes X0.here hx 244 (hb hby at_237) (Jvm.Free.XT.i0_lt_t ((by decide))) (by decide) (by decide) ?_
        refine own_s_iconst X0.here hx (0 : Int32) (hb hby at_244) rfl ?_
        refine own_s_iadd X0.here hx (hb hby at_245) ?_
        refine own_s_iload X0.here hx (hb hby at_246) rfl ?_
        show own_Go p e below T0 (mkF m 248 #[.val (.int sh0), .val (.int pm0), .val (.int nd0), .val (.ref lp), .val (.int r_), .val (.int k_), .val (.ref pr), .val (.ref bf), .val (.int (2 : Int32)), .val (.int (1 : Int32)), .val (.int (-1 : Int32)), .val (.int (-1 : Int32)), .unset, .unset, .unset] [(.int (-1 : Int32)), (.int (((1 : Int32) + (1 : Int32)) + (0 : Int32)))]) _
        refine own_s_ifYes X0.here hx 255 (hb hby at_248) (Jvm.Free.XT.i0_lt_t ((by decide))) (by decide) (by decide) ?_
        refine own_s_iconst X0.here hx (0 : Int32) (hb hby at_255) rfl ?_
        refine own_s_iadd X0.here hx (hb hby at_256) ?_
        show own_Go p e below T0 (mkF m 257 #[.val (.int sh0), .val (.int pm0), .val (.int nd0), .val (.ref lp), .val (.int r_), .val (.int k_), .val (.ref pr), .val (.ref bf), .val (.int (2 : Int32)), .val (.int (1 : Int32)), .val (.int (-1 : Int32)), .val (.int (-1 : Int32)), .unset, .unset, .unset] [(.int (2 : Int32))]) _
        refine own_s_istore X0.here hx #[.val (.int sh0), .val (.int pm0), .val (.int nd0), .val (.ref lp), .val (.int r_), .val (.int k_), .val (.ref pr), .val (.ref bf), .val (.int (2 : Int32)), .val (.int (1 : Int32)), .val (.int (-1 : Int32)), .val (.int (-1 : Int32)), .val (.int (2 : Int32)), .unset, .unset] (hb hby at_257) rfl ?_
        refine own_s_aload X0.here hx (hb hby at_259) rfl rfl ?_
        refine own_s_iload X0.here hx (hb hby at_261) rfl ?_
        refine own_s_iload X0.here hx (hb hby at_263) rfl ?_
        refine own_s_iload X0.here hx (hb hby at_265) rfl ?_
        obtain ⟨_, _, ⟨T69, L69, k69, n69⟩, -, X69, ⟨Lc69, hQ69, l69, y69, z69⟩, st69⟩ := Jvm.LawKit.callS X0 hx (y := (⟨"com/example/geodesic/geodesic/graph/ShortestPathsWalkPinLaw", "s", "(III)I"⟩ : MethodName)) hown (mvT hZ (hw _ (List.mem_of_getElem? (i := 1) rfl))) (mvT hZ (hw _ (List.mem_of_getElem? (i := 2) rfl))) (mvT hZ (hw _ (List.mem_of_getElem? (i := 3) rfl))) (mvT hZ (hw _ (List.mem_of_getElem? (i := 4) rfl))) (by decide) (backOf (W := 1) (own_r1 l Z a0 hw [] (2 : Int32) r_ k_  h0 n0 Z0 ) hZ (hw _ (List.mem_of_getElem? (i := 4) rfl)) (hw _ (List.mem_of_getElem? (i := 3) rfl)) (by decide) (by decide)) (g := (mkF m 267 #[.val (.int sh0), .val (.int pm0), .val (.int nd0), .val (.ref lp), .val (.int r_), .val (.int k_), .val (.ref pr), .val (.ref bf), .val (.int (2 : Int32)), .val (.int (1 : Int32)), .val (.int (-1 : Int32)), .val (.int (-1 : Int32)), .val (.int (2 : Int32)), .unset, .unset] [(.int k_), (.int r_), (.int (2 : Int32)), (.ref pr)])) rfl (by rw [hml]; rfl) (argsL := [(.int (2 : Int32)), (.int r_), (.int k_)]) (rest := [(.ref pr)]) (lenOf own_pd_0 rfl) rfl (by show 2 * 0 + _ ≤ _; exact Nat.le_of_eq rfl) (hb hby at_267) (fun _ _ => ⟨rfl, e0, (by decide : 3 + 0 ≤ _), (by decide : 12 + 0 ≤ _)⟩)
        dsimp only [Pt.U, Pt.locs, Pt.cells, Pt.slots] at X69 l69 y69 z69 st69 hQ69
        subst l69 y69 z69
        obtain ⟨rfl, N69q, e69⟩ := hQ69
        have N69 := Fr.app N0 N69q
        refine own_by st69 ?_
        show own_Go p e below T69 (mkF m 270 #[.val (.int sh0), .val (.int pm0), .val (.int nd0), .val (.ref lp), .val (.int r_), .val (.int k_), .val (.ref pr), .val (.ref bf), .val (.int (2 : Int32)), .val (.int (1 : Int32)), .val (.int (-1 : Int32)), .val (.int (-1 : Int32)), .val (.int (2 : Int32)), .unset, .unset] [(.int (own_f1 (2 : Int32) r_ k_)), (.ref pr)]) _
        obtain ⟨_, _, ⟨T70, L70, k70, n70⟩, -, X70, ⟨Lc70, hQ70, l70, y70, z70⟩, st70⟩ := Jvm.LawKit.callS X69 hx (y := (⟨"com/example/geodesic/geodesic/graph/ShortestPaths", "walk", "([II)[I"⟩ : MethodName)) hown (mvT hZ (hw _ (List.mem_of_getElem? (i := 8) rfl))) (mvT hZ (hw _ (List.mem_of_getElem? (i := 9) rfl))) (mvT hZ (hw _ (List.mem_of_getElem? (i := 10) rfl))) (mvT hZ (hw _ (List.mem_of_getElem? (i := 11) rfl))) (by decide) (backOf (W := 0) (own_wk2 l Z a0 hw [] pr (own_f1 (2 : Int32) r_ k_) (own_f1 (1 : Int32) r_ k_) ((own_f1 (2 : Int32) r_ k_).toNatClampNeg) ((own_f1 (1 : Int32) r_ k_).toNatClampNeg) (fun i => .int ((own_pf ((own_f1 (0 : Int32) r_ k_).toNatClampNeg) ((own_f1 (1 : Int32) r_ k_).toNatClampNeg) ((own_f1 (2 : Int32) r_ k_).toNatClampNeg) ((own_f1 (3 : Int32) r_ k_).toNatClampNeg) (own_f2 (-1 : Int32) r_ k_) (own_f2 (-1 : Int32) r_ k_) (own_f2 (1 : Int32) r_ k_) (own_f2 l3 r_ k_)) i)) h0 n0 Z0 ⟨f2.1, rfl⟩ f2.2.1 (congrArg Value.int ((hpf.2.2.1).trans (own_img _ _ _ (by decide)))) ⟨f1.1, rfl⟩ f1.2.1 (congrArg Value.int ((hpf.2.1).trans (own_img0 _ _ _ (by decide)))) f1.2.2 A_pr) hZ (hw _ (List.mem_of_getElem? (i := 11) rfl)) (hw _ (List.mem_of_getElem? (i := 10) rfl)) (by decide) (by decide)) (g := (mkF m 270 #[.val (.int sh0), .val (.int pm0), .val (.int nd0), .val (.ref lp), .val (.int r_), .val (.int k_), .val (.ref pr), .val (.ref bf), .val (.int (2 : Int32)), .val (.int (1 : Int32)), .val (.int (-1 : Int32)), .val (.int (-1 : Int32)), .val (.int (2 : Int32)), .unset, .unset] [(.int (own_f1 (2 : Int32) r_ k_)), (.ref pr)])) rfl (by rw [hml]; rfl) (argsL := [(.ref pr), (.int (own_f1 (2 : Int32) r_ k_))]) (rest := []) (lenOf own_pd_1 rfl) rfl (by show 2 * 0 + _ ≤ _; exact Nat.le_of_eq rfl) (hb hby at_270) (fun _ _ => ⟨rfl, e69, (by decide : 3 + 1 ≤ _), (by decide : 12 + 2 ≤ _)⟩)
        dsimp only [Pt.U, Pt.locs, Pt.cells, Pt.slots] at X70 l70 y70 z70 st70 hQ70
        subst l70 y70 z70
        obtain ⟨bb70, rfl, N70q, gb70, K70, fa70⟩ := hQ70
        have N70 := Fr.app N69 N70q
        have f71 := A_lp.keep K70 nin0
        have f72 := A_pr.keep K70 nin0
        have f73 := A_bf.keep K70 nin0
        have SZ70 : n0 ≤ T70.heap.size := Nat.le_trans Z0 K70.1
        refine own_by st70 ?_
        show own_Go p e below T70 (mkF m 273 #[.val (.int sh0), .val (.int pm0), .val (.int nd0), .val (.ref lp), .val (.int r_), .val (.int k_), .val (.ref pr), .val (.ref bf), .val (.int (2 : Int32)), .val (.int (1 : Int32)), .val (.int (-1 : Int32)), .val (.int (-1 : Int32)), .val (.int (2 : Int32)), .unset, .unset] [(.ref bb70)]) _
        exact own_t2 hx hZ hw hby hml hown hnm hret hlk  sh0 pm0 nd0 r_ k_ (2 : Int32) (1 : Int32) (-1 : Int32) (-1 : Int32) (own_f2 (-1 : Int32) r_ k_) (own_f2 (-1 : Int32) r_ k_) (own_f2 (1 : Int32) r_ k_) (own_f2 l3 r_ k_) lp pr bf bb70 ((own_f1 (0 : Int32) r_ k_).toNatClampNeg) ((own_f1 (1 : Int32) r_ k_).toNatClampNeg) ((own_f1 (2 : Int32) r_ k_).toNatClampNeg) ((own_f1 (3 : Int32) r_ k_).toNatClampNeg) X70 rfl N70 SZ70 f72 f73 fa70
      ·
        show own_Go p e below T0 (mkF m 187 #[.val (.int sh0), .val (.int pm0), .val (.int nd0), .val (.ref lp), .val (.int r_), .val (.int k_), .val (.ref pr), .val (.ref bf), .val (.int (2 : Int32)), .unset, .unset, .unset, .unset, .unset, .unset] []) _
        refine own_s_aloadN X0.here hx (hb hby at_187) rfl rfl ?_
        refine own_s_iload X0.here hx (hb hby at_188) rfl ?_
        refine own_by (fun tq_ kq_ => own_ldI X0 hx hZ e0 A_lp (k := 2) (v := (.int (1 : Int32))) (by decide) (by decide) rfl (g := (mkF m 190 #[.val (.int sh0), .val (.int pm0), .val (.int nd0), .val (.ref lp), .val (.int r_), .val (.int k_), .val (.ref pr), .val (.ref bf), .val (.int (2 : Int32)), .unset, .unset, .unset, .unset, .unset, .unset] [(.int (2 : Int32)), (.ref lp)])) rfl rfl (hb hby at_190) tq_ kq_) ?_
        show own_Go p e below T0 (mkF m 191 #[.val (.int sh0), .val (.int pm0), .val (.int nd0), .val (.ref lp), .val (.int r_), .val (.int k_), .val (.ref pr), .val (.ref bf), .val (.int (2 : Int32)), .unset, .unset, .unset, .unset, .unset, .unset] [(.int (1 : Int32))]) _
        refine own_s_istore X0.here hx #[.val (.int sh0), .val (.int pm0), .val (.int nd0), .val (.ref lp), .val (.int r_), .val (.int k_), .val (.ref pr), .val (.ref bf), .val (.int (2 : Int32)), .val (.int (1 : Int32)), .unset, .unset, .unset, .unset, .unset] (hb hby at_191) rfl ?_
        refine own_s_iload X0.here hx (hb hby at_193) rfl ?_
        show own_Go p e below T0 (mkF m 195 #[.val (.int sh0), .val (.int pm0), .val (.int nd0), .val (.ref lp), .val (.int r_), .val (.int k_), .val (.ref pr), .val (.ref bf), .val (.int (2 : Int32)), .val (.int (1 : Int32)), .unset, .unset, .unset, .unset, .unset] [(.int (1 : Int32))]) _
        refine own_s_ifYes X0.here hx 202 (hb hby at_195) (Jvm.Free.XT.i0_ge_t ((by decide))) (by decide) (by decide) ?_
        refine own_s_aloadN X0.here hx (hb hby at_202) rfl rfl ?_
        refine own_s_iload X0.here hx (hb hby at_203) rfl ?_
        refine own_by (fun tq_ kq_ => own_ldI X0 hx hZ e0 A_lp (k := 1) (v := (.int (0 : Int32))) (by decide) (by decide) rfl (g := (mkF m 205 #[.val (.int sh0), .val (.int pm0), .val (.int nd0), .val (.ref lp), .val (.int r_), .val (.int k_), .val (.ref pr), .val (.ref bf), .val (.int (2 : Int32)), .val (.int (1 : Int32)), .unset, .unset, .unset, .unset, .unset] [(.int (1 : Int32)), (.ref lp)])) rfl rfl (hb hby at_205) tq_ kq_) ?_
        show own_Go p e below T0 (mkF m 206 #[.val (.int sh0), .val (.int pm0), .val (.int nd0), .val (.ref lp), .val (.int r_), .val (.int k_), .val (.ref pr), .val (.ref bf), .val (.int (2 : Int32)), .val (.int (1 : Int32)), .unset, .unset, .unset, .unset, .unset] [(.int (0 : Int32))]) _
        refine own_s_istore X0.here hx #[.val (.int sh0), .val (.int pm0), .val (.int nd0), .val (.ref lp), .val (.int r_), .val (.int k_), .val (.ref pr), .val (.ref bf), .val (.int (2 : Int32)), .val (.int (1 : Int32)), .val (.int (0 : Int32)), .unset, .unset, .unset, .unset] (hb hby at_206) rfl ?_
        refine own_s_iload X0.here hx (hb hby at_208) rfl ?_
        show own_Go p e below T0 (mkF m 210 #[.val (.int sh0), .val (.int pm0), .val (.int nd0), .val (.ref lp), .val (.int r_), .val (.int k_), .val (.ref pr), .val (.ref bf), .val (.int (2 : Int32)), .val (.int (1 : Int32)), .val (.int (0 : Int32)), .unset, .unset, .unset, .unset] [(.int (0 : Int32))]) _
        refine own_s_ifYes X0.here hx 217 (hb hby at_210) (Jvm.Free.XT.i0_ge_t ((by decide))) (by decide) (by decide) ?_
        refine own_s_aloadN X0.here hx (hb hby at_217) rfl rfl ?_
        refine own_s_iload X0.here hx (hb hby at_218) rfl ?_
        refine own_by (fun tq_ kq_ => own_ldI X0 hx hZ e0 A_lp (k := 0) (v := (.int (-1 : Int32))) (by decide) (by decide) rfl (g := (mkF m 220 #[.val (.int sh0), .val (.int pm0), .val (.int nd0), .val (.ref lp), .val (.int r_), .val (.int k_), .val (.ref pr), .val (.ref bf), .val (.int (2 : Int32)), .val (.int (1 : Int32)), .val (.int (0 : Int32)), .unset, .unset, .unset, .unset] [(.int (0 : Int32)), (.ref lp)])) rfl rfl (hb hby at_220) tq_ kq_) ?_
        show own_Go p e below T0 (mkF m 221 #[.val (.int sh0), .val (.int pm0), .val (.int nd0), .val (.ref lp), .val (.int r_), .val (.int k_), .val (.ref pr), .val (.ref bf), .val (.int (2 : Int32)), .val (.int (1 : Int32)), .val (.int (0 : Int32)), .unset, .unset, .unset, .unset] [(.int (-1 : Int32))]) _
        refine own_s_istore X0.here hx #[.val (.int sh0), .val (.int pm0), .val (.int nd0), .val (.ref lp), .val (.int r_), .val (.int k_), .val (.ref pr), .val (.ref bf), .val (.int (2 : Int32)), .val (.int (1 : Int32)), .val (.int (0 : Int32)), .val (.int (-1 : Int32)), .unset, .unset, .unset] (hb hby at_221) rfl ?_
        refine own_s_iconst X0.here hx (1 : Int32) (hb hby at_223) rfl ?_
        refine own_s_iload X0.here hx (hb hby at_224) rfl ?_
        refine own_s_ifNo X0.here hx (hb hby at_226) (Jvm.Free.XT.i0_lt_f ((by decide))) ?_
        refine own_s_iconst X0.here hx (1 : Int32) (hb hby at_229) rfl ?_
        show own_Go p e below T0 (mkF m 230 #[.val (.int sh0), .val (.int pm0), .val (.int nd0), .val (.ref lp), .val (.int r_), .val (.int k_), .val (.ref pr), .val (.ref bf), .val (.int (2 : Int32)), .val (.int (1 : Int32)), .val (.int (0 : Int32)), .val (.int (-1 : Int32)), .unset, .unset, .unset] [(.int (1 : Int32)), (.int (1 : Int32))]) _
        refine own_s_goto X0.here hx 234 (hb hby at_230) (by decide) (by decide) ?_
        refine own_s_iadd X0.here hx (hb hby at_234) ?_
        refine own_s_iload X0.here hx (hb hby at_235) rfl ?_
        refine own_s_ifNo X0.here hx (hb hby at_237) (Jvm.Free.XT.i0_lt_f ((by decide))) ?_
        refine own_s_iconst X0.here hx (1 : Int32) (hb hby at_240) rfl ?_
        show own_Go p e below T0 (mkF m 241 #[.val (.int sh0), .val (.int pm0), .val (.int nd0), .val (.ref lp), .val (.int r_), .val (.int k_), .val (.ref pr), .val (.ref bf), .val (.int (2 : Int32)), .val (.int (1 : Int32)), .val (.int (0 : Int32)), .val (.int (-1 : Int32)), .unset, .unset, .unset] [(.int (1 : Int32)), (.int ((1 : Int32) + (1 : Int32)))]) _
        refine own_s_goto X0.here hx 245 (hb hby at_241) (by decide) (by decide) ?_
        refine own_s_iadd X0.here hx (hb hby at_245) ?_
        refine own_s_iload X0.here hx (hb hby at_246) rfl ?_
        show own_Go p e below T0 (mkF m 248 #[.val (.int sh0), .val (.int pm0), .val (.int nd0), .val (.ref lp), .val (.int r_), .val (.int k_), .val (.ref pr), .val (.ref bf), .val (.int (2 : Int32)), .val (.int (1 : Int32)), .val (.int (0 : Int32)), .val (.int (-1 : Int32)), .unset, .unset, .unset] [(.int (-1 : Int32)), (.int (((1 : Int32) + (1 : Int32)) + (1 : Int32)))]) _
        refine own_s_ifYes X0.here hx 255 (hb hby at_248) (Jvm.Free.XT.i0_lt_t ((by decide))) (by decide) (by decide) ?_
        refine own_s_iconst X0.here hx (0 : Int32) (hb hby at_255) rfl ?_
        refine own_s_iadd X0.here hx (hb hby at_256) ?_
        show own_Go p e below T0 (mkF m 257 #[.val (.int sh0), .val (.int pm0), .val (.int nd0), .val (.ref lp), .val (.int r_), .val (.int k_), .val (.ref pr), .val (.ref bf), .val (.int (2 : Int32)), .val (.int (1 : Int32)), .val (.int (0 : Int32)), .val (.int (-1 : Int32)), .unset, .unset, .unset] [(.int (3 : Int32))]) _
        refine own_s_istore X0.here hx #[.val (.int sh0), .val (.int pm0), .val (.int nd0), .val (.ref lp), .val (.int r_), .val (.int k_), .val (.ref pr), .val (.ref bf), .val (.int (2 : Int32)), .val (.int (1 : Int32)), .val (.int (0 : Int32)), .val (.int (-1 : Int32)), .val (.int (3 : Int32)), .unset, .unset] (hb hby at_257) rfl ?_
        refine own_s_aload X0.here hx (hb hby at_259) rfl rfl ?_
        refine own_s_iload X0.here hx (hb hby at_261) rfl ?_
        refine own_s_iload X0.here hx (hb hby at_263) rfl ?_
        refine own_s_iload X0.here hx (hb hby at_265) rfl ?_
        obtain ⟨_, _, ⟨T74, L74, k74, n74⟩, -, X74, ⟨Lc74, hQ74, l74, y74, z74⟩, st74⟩ := Jvm.LawKit.callS X0 hx (y := (⟨"com/example/geodesic/geodesic/graph/ShortestPathsWalkPinLaw", "s", "(III)I"⟩ : MethodName)) hown (mvT hZ (hw _ (List.mem_of_getElem? (i := 1) rfl))) (mvT hZ (hw _ (List.mem_of_getElem? (i := 2) rfl))) (mvT hZ (hw _ (List.mem_of_getElem? (i := 3) rfl))) (mvT hZ (hw _ (List.mem_of_getElem? (i := 4) rfl))) (by decide) (backOf (W := 1) (own_r1 l Z a0 hw [] (2 : Int32) r_ k_  h0 n0 Z0 ) hZ (hw _ (List.mem_of_getElem? (i := 4) rfl)) (hw _ (List.mem_of_getElem? (i := 3) rfl)) (by decide) (by decide)) (g := (mkF m 267 #[.val (.int sh0), .val (.int pm0), .val (.int nd0), .val (.ref lp), .val (.int r_), .val (.int k_), .val (.ref pr), .val (.ref bf), .val (.int (2 : Int32)), .val (.int (1 : Int32)), .val (.int (0 : Int32)), .val (.int (-1 : Int32)), .val (.int (3 : Int32)), .unset, .unset] [(.int k_), (.int r_), (.int (2 : Int32)), (.ref pr)])) rfl (by rw [hml]; rfl) (argsL := [(.int (2 : Int32)), (.int r_), (.int k_)]) (rest := [(.ref pr)]) (lenOf own_pd_0 rfl) rfl (by show 2 * 0 + _ ≤ _; exact Nat.le_of_eq rfl) (hb hby at_267) (fun _ _ => ⟨rfl, e0, (by decide : 3 + 0 ≤ _), (by decide : 12 + 0 ≤ _)⟩)
        dsimp only [Pt.U, Pt.locs, Pt.cells, Pt.slots] at X74 l74 y74 z74 st74 hQ74
        subst l74 y74 z74
        obtain ⟨rfl, N74q, e74⟩ := hQ74
        have N74 := Fr.app N0 N74q
        refine own_by st74 ?_
        show own_Go p e below T74 (mkF m 270 #[.val (.int sh0), .val (.int pm0), .val (.int nd0), .val (.ref lp), .val (.int r_), .val (.int k_), .val (.ref pr), .val (.ref bf), .val (.int (2 : Int32)), .val (.int (1 : Int32)), .val (.int (0 : Int32)), .val (.int (-1 : Int32)), .val (.int (3 : Int32)), .unset, .unset] [(.int (own_f1 (2 : Int32) r_ k_)), (.ref pr)]) _
        obtain ⟨_, _, ⟨T75, L75, k75, n75⟩, -, X75, ⟨Lc75, hQ75, l75, y75, z75⟩, st75⟩ := Jvm.LawKit.callS X74 hx (y := (⟨"com/example/geodesic/geodesic/graph/ShortestPaths", "walk", "([II)[I"⟩ : MethodName)) hown (mvT hZ (hw _ (List.mem_of_getElem? (i := 8) rfl))) (mvT hZ (hw _ (List.mem_of_getElem? (i := 9) rfl))) (mvT hZ (hw _ (List.mem_of_getElem? (i := 10) rfl))) (mvT hZ (hw _ (List.mem_of_getElem? (i := 11) rfl))) (by decide) (backOf (W := 0) (own_wk3 l Z a0 hw [] pr (own_f1 (2 : Int32) r_ k_) (own_f1 (1 : Int32) r_ k_) (own_f1 (0 : Int32) r_ k_) ((own_f1 (2 : Int32) r_ k_).toNatClampNeg) ((own_f1 (1 : Int32) r_ k_).toNatClampNeg) ((own_f1 (0 : Int32) r_ k_).toNatClampNeg) (fun i => .int ((own_pf ((own_f1 (0 : Int32) r_ k_).toNatClampNeg) ((own_f1 (1 : Int32) r_ k_).toNatClampNeg) ((own_f1 (2 : Int32) r_ k_).toNatClampNeg) ((own_f1 (3 : Int32) r_ k_).toNatClampNeg) (own_f2 (-1 : Int32) r_ k_) (own_f2 (0 : Int32) r_ k_) (own_f2 (1 : Int32) r_ k_) (own_f2 l3 r_ k_)) i)) h0 n0 Z0 ⟨f2.1, rfl⟩ f2.2.1 (congrArg Value.int ((hpf.2.2.1).trans (own_img _ _ _ (by decide)))) ⟨f1.1, rfl⟩ f1.2.1 (congrArg Value.int ((hpf.2.1).trans (own_img _ _ _ (by decide)))) f1.2.2 ⟨f0.1, rfl⟩ f0.2.1 (congrArg Value.int ((hpf.1).trans (own_img0 _ _ _ (by decide)))) f0.2.2 A_pr) hZ (hw _ (List.mem_of_getElem? (i := 11) rfl)) (hw _ (List.mem_of_getElem? (i := 10) rfl)) (by decide) (by decide)) (g := (mkF m 270 #[.val (.int sh0), .val (.int pm0), .val (.int nd0), .val (.ref lp), .val (.int r_), .val (.int k_), .val (.ref pr), .val (.ref bf), .val (.int (2 : Int32)), .val (.int (1 : Int32)), .val (.int (0 : Int32)), .val (.int (-1 : Int32)), .val (.int (3 : Int32)), .unset, .unset] [(.int (own_f1 (2 : Int32) r_ k_)), (.ref pr)])) rfl (by rw [hml]; rfl) (argsL := [(.ref pr), (.int (own_f1 (2 : Int32) r_ k_))]) (rest := []) (lenOf own_pd_1 rfl) rfl (by show 2 * 0 + _ ≤ _; exact Nat.le_of_eq rfl) (hb hby at_270) (fun _ _ => ⟨rfl, e74, (by decide : 3 + 1 ≤ _), (by decide : 12 + 3 ≤ _)⟩)
        dsimp only [Pt.U, Pt.locs, Pt.cells, Pt.slots] at X75 l75 y75 z75 st75 hQ75
        subst l75 y75 z75
        obtain ⟨bb75, rfl, N75q, gb75, K75, fa75⟩ := hQ75
        have N75 := Fr.app N74 N75q
        have f76 := A_lp.keep K75 nin0
        have f77 := A_pr.keep K75 nin0
        have f78 := A_bf.keep K75 nin0
        have SZ75 : n0 ≤ T75.heap.size := Nat.le_trans Z0 K75.1
        refine own_by st75 ?_
        show own_Go p e below T75 (mkF m 273 #[.val (.int sh0), .val (.int pm0), .val (.int nd0), .val (.ref lp), .val (.int r_), .val (.int k_), .val (.ref pr), .val (.ref bf), .val (.int (2 : Int32)), .val (.int (1 : Int32)), .val (.int (0 : Int32)), .val (.int (-1 : Int32)), .val (.int (3 : Int32)), .unset, .unset] [(.ref bb75)]) _
        exact own_t3 hx hZ hw hby hml hown hnm hret hlk  sh0 pm0 nd0 r_ k_ (2 : Int32) (1 : Int32) (0 : Int32) (-1 : Int32) (own_f2 (-1 : Int32) r_ k_) (own_f2 (0 : Int32) r_ k_) (own_f2 (1 : Int32) r_ k_) (own_f2 l3 r_ k_) lp pr bf bb75 ((own_f1 (0 : Int32) r_ k_).toNatClampNeg) ((own_f1 (1 : Int32) r_ k_).toNatClampNeg) ((own_f1 (2 : Int32) r_ k_).toNatClampNeg) ((own_f1 (3 : Int32) r_ k_).toNatClampNeg) X75 rfl N75 SZ75 f77 f78 fa75
  ·
    show own_Go p e below T0 (mkF m 187 #[.val (.int sh0), .val (.int pm0), .val (.int nd0), .val (.ref lp), .val (.int r_), .val (.int k_), .val (.ref pr), .val (.ref bf), .val (.int (3 : Int32)), .unset, .unset, .unset, .unset, .unset, .unset] []) _
    rcases hL3 with rfl | rfl | rfl | rfl
    ·
      show own_Go p e below T0 (mkF m 187 #[.val (.int sh0), .val (.int pm0), .val (.int nd0), .val (.ref lp), .val (.int r_), .val (.int k_), .val (.ref pr), .val (.ref bf), .val (.int (3 : Int32)), .unset, .unset, .unset, .unset, .unset, .unset] []) _
      refine own_s_aloadN X0.here hx (hb hby at_187) rfl rfl ?_
      refine own_s_iload X0.here hx (hb hby at_188) rfl ?_
      refine own_by (fun tq_ kq_ => own_ldI X0 hx hZ e0 A_lp (k := 3) (v := (.int (-1 : Int32))) (by decide) (by decide) rfl (g := (mkF m 190 #[.val (.int sh0), .val (.int pm0), .val (.int nd0), .val (.ref lp), .val (.int r_), .val (.int k_), .val (.ref pr), .val (.ref bf), .val (.int (3 : Int32)), .unset, .unset, .unset, .unset, .unset, .unset] [(.int (3 : Int32)), (.ref lp)])) rfl rfl (hb hby at_190) tq_ kq_) ?_
      show own_Go p e below T0 (mkF m 191 #[.val (.int sh0), .val (.int pm0), .val (.int nd0), .val (.ref lp), .val (.int r_), .val (.int k_), .val (.ref pr), .val (.ref bf), .val (.int (3 : Int32)), .unset, .unset, .unset, .unset, .unset, .unset] [(.int (-1 : Int32))]) _
      refine own_s_istore X0.here hx #[.val (.int sh0), .val (.int pm0), .val (.int nd0), .val (.ref lp), .val (.int r_), .val (.int k_), .val (.ref pr), .val (.ref bf), .val (.int (3 : Int32)), .val (.int (-1 : Int32)), .unset, .unset, .unset, .unset, .unset] (hb hby at_191) rfl ?_
      refine own_s_iload X0.here hx (hb hby at_193) rfl ?_
      refine own_s_ifNo X0.here hx (hb hby at_195) (Jvm.Free.XT.i0_ge_f ((by decide))) ?_
      refine own_s_iconst X0.here hx (-1 : Int32) (hb hby at_198) rfl ?_
      show own_Go p e below T0 (mkF m 199 #[.val (.int sh0), .val (.int pm0), .val (.int nd0), .val (.ref lp), .val (.int r_), .val (.int k_), .val (.ref pr), .val (.ref bf), .val (.int (3 : Int32)), .val (.int (-1 : Int32)), .unset, .unset, .unset, .unset, .unset] [(.int (-1 : Int32))]) _
      refine own_s_goto X0.here hx 206 (hb hby at_199) (by decide) (by decide) ?_
      refine own_s_istore X0.here hx #[.val (.int sh0), .val (.int pm0), .val (.int nd0), .val (.ref lp), .val (.int r_), .val (.int k_), .val (.ref pr), .val (.ref bf), .val (.int (3 : Int32)), .val (.int (-1 : Int32)), .val (.int (-1 : Int32)), .unset, .unset, .unset, .unset] (hb hby at_206) rfl ?_
      refine own_s_iload X0.here hx (hb hby at_208) rfl ?_
      refine own_s_ifNo X0.here hx (hb hby at_210) (Jvm.Free.XT.i0_ge_f ((by decide))) ?_
      refine own_s_iconst X0.here hx (-1 : Int32) (hb hby at_213) rfl ?_
      show own_Go p e below T0 (mkF m 214 #[.val (.int sh0), .val (.int pm0), .val (.int nd0), .val (.ref lp), .val (.int r_), .val (.int k_), .val (.ref pr), .val (.ref bf), .val (.int (3 : Int32)), .val (.int (-1 : Int32)), .val (.int (-1 : Int32)), .unset, .unset, .unset, .unset] [(.int (-1 : Int32))]) _
      refine own_s_goto X0.here hx 221 (hb hby at_214) (by decide) (by decide) ?_
      refine own_s_istore X0.here hx #[.val (.int sh0), .val (.int pm0), .val (.int nd0), .val (.ref lp), .val (.int r_), .val (.int k_), .val (.ref pr), .val (.ref bf), .val (.int (3 : Int32)), .val (.int (-1 : Int32)), .val (.int (-1 : Int32)), .val (.int (-1 : Int32)), .unset, .unset, .unset] (hb hby at_221) rfl ?_
      refine own_s_iconst X0.here hx (1 : Int32) (hb hby at_223) rfl ?_
      refine own_s_iload X0.here hx (hb hby at_224) rfl ?_
      show own_Go p e below T0 (mkF m 226 #[.val (.int sh0), .val (.int pm0), .val (.int nd0), .val (.ref lp), .val (.int r_), .val (.int k_), .val (.ref pr), .val (.ref bf), .val (.int (3 : Int32)), .val (.int (-1 : Int32)), .val (.int (-1 : Int32)), .val (.int (-1 : Int32)), .unset, .unset, .unset] [(.int (-1 : Int32)), (.int (1 : Int32))]) _
      refine own_s_ifYes X0.here hx 233 (hb hby at_226) (Jvm.Free.XT.i0_lt_t ((by decide))) (by decide) (by decide) ?_
      refine own_s_iconst X0.here hx (0 : Int32) (hb hby at_233) rfl ?_
      refine own_s_iadd X0.here hx (hb hby at_234) ?_
      refine own_s_iload X0.here hx (hb hby at_235) rfl ?_
      show own_Go p e below T0 (mkF m 237 #[.val (.int sh0), .val (.int pm0), .val (.int nd0), .val (.ref lp), .val (.int r_), .val (.int k_), .val (.ref pr), .val (.ref bf), .val (.int (3 : Int32)), .val (.int (-1 : Int32)), .val (.int (-1 : Int32)), .val (.int (-1 : Int32)), .unset, .unset, .unset] [(.int (-1 : Int32)), (.int ((1 : Int32) + (0 : Int32)))]) _
      refine own_s_ifYes X0.here hx 244 (hb hby at_237) (Jvm.Free.XT.i0_lt_t ((by decide))) (by decide) (by decide) ?_
      refine own_s_iconst X0.here hx (0 : Int32) (hb hby at_244) rfl ?_
      refine own_s_iadd X0.here hx (hb hby at_245) ?_
      refine own_s_iload X0.here hx (hb hby at_246) rfl ?_
      show own_Go p e below T0 (mkF m 248 #[.val (.int sh0), .val (.int pm0), .val (.int nd0), .val (.ref lp), .val (.int r_), .val (.int k_), .val (.ref pr), .val (.ref bf), .val (.int (3 : Int32)), .val (.int (-1 : Int32)), .val (.int (-1 : Int32)), .val (.int (-1 : Int32)), .unset, .unset, .unset] [(.int (-1 : Int32)), (.int (((1 : Int32) + (0 : Int32)) + (0 : Int32)))]) _
      refine own_s_ifYes X0.here hx 255 (hb hby at_248) (Jvm.Free.XT.i0_lt_t ((by decide))) (by decide) (by decide) ?_
      refine own_s_iconst X0.here hx (0 : Int32) (hb hby at_255) rfl ?_
      refine own_s_iadd X0.here hx (hb hby at_256) ?_
      show own_Go p e below T0 (mkF m 257 #[.val (.int sh0), .val (.int pm0), .val (.int nd0), .val (.ref lp), .val (.int r_), .val (.int k_), .val (.ref pr), .val (.ref bf), .val (.int (3 : Int32)), .val (.int (-1 : Int32)), .val (.int (-1 : Int32)), .val (.int (-1 : Int32)), .unset, .unset, .unset] [(.int (1 : Int32))]) _
      refine own_s_istore X0.here hx #[.val (.int sh0), .val (.int pm0), .val (.int nd0), .val (.ref lp), .val (.int r_), .val (.int k_), .val (.ref pr), .val (.ref bf), .val (.int (3 : Int32)), .val (.int (-1 : Int32)), .val (.int (-1 : Int32)), .val (.int (-1 : Int32)), .val (.int (1 : Int32)), .unset, .unset] (hb hby at_257) rfl ?_
      refine own_s_aload X0.here hx (hb hby at_259) rfl rfl ?_
      refine own_s_iload X0.here hx (hb hby at_261) rfl ?_
      refine own_s_iload X0.here hx (hb hby at_263) rfl ?_
      refine own_s_iload X0.here hx (hb hby at_265) rfl ?_
      obtain ⟨_, _, ⟨T79, L79, k79, n79⟩, -, X79, ⟨Lc79, hQ79, l79, y79, z79⟩, st79⟩ := Jvm.LawKit.callS X0 hx (y := (⟨"com/example/geodesic/geodesic/graph/ShortestPathsWalkPinLaw", "s", "(III)I"⟩ : MethodName)) hown (mvT hZ (hw _ (List.mem_of_getElem? (i := 1) rfl))) (mvT hZ (hw _ (List.mem_of_getElem? (i := 2) rfl))) (mvT hZ (hw _ (List.mem_of_getElem? (i := 3) rfl))) (mvT hZ (hw _ (List.mem_of_getElem? (i := 4) rfl))) (by decide) (backOf (W := 1) (own_r1 l Z a0 hw [] (3 : Int32) r_ k_  h0 n0 Z0 ) hZ (hw _ (List.mem_of_getElem? (i := 4) rfl)) (hw _ (List.mem_of_getElem? (i := 3) rfl)) (by decide) (by decide)) (g := (mkF m 267 #[.val (.int sh0), .val (.int pm0), .val (.int nd0), .val (.ref lp), .val (.int r_), .val (.int k_), .val (.ref pr), .val (.ref bf), .val (.int (3 : Int32)), .val (.int (-1 : Int32)), .val (.int (-1 : Int32)), .val (.int (-1 : Int32)), .val (.int (1 : Int32)), .unset, .unset] [(.int k_), (.int r_), (.int (3 : Int32)), (.ref pr)])) rfl (by rw [hml]; rfl) (argsL := [(.int (3 : Int32)), (.int r_), (.int k_)]) (rest := [(.ref pr)]) (lenOf own_pd_0 rfl) rfl (by show 2 * 0 + _ ≤ _; exact Nat.le_of_eq rfl) (hb hby at_267) (fun _ _ => ⟨rfl, e0, (by decide : 3 + 0 ≤ _), (by decide : 12 + 0 ≤ _)⟩)
      dsimp only [Pt.U, Pt.locs, Pt.cells, Pt.slots] at X79 l79 y79 z79 st79 hQ79
      subst l79 y79 z79
      obtain ⟨rfl, N79q, e79⟩ := hQ79
      have N79 := Fr.app N0 N79q
      refine own_by st79 ?_
      show own_Go p e below T79 (mkF m 270 #[.val (.int sh0), .val (.int pm0), .val (.int nd0), .val (.ref lp), .val (.int r_), .val (.int k_), .val (.ref pr), .val (.ref bf), .val (.int (3 : Int32)), .val (.int (-1 : Int32)), .val (.int (-1 : Int32)), .val (.int (-1 : Int32)), .val (.int (1 : Int32)), .unset, .unset] [(.int (own_f1 (3 : Int32) r_ k_)), (.ref pr)]) _
      obtain ⟨_, _, ⟨T80, L80, k80, n80⟩, -, X80, ⟨Lc80, hQ80, l80, y80, z80⟩, st80⟩ := Jvm.LawKit.callS X79 hx (y := (⟨"com/example/geodesic/geodesic/graph/ShortestPaths", "walk", "([II)[I"⟩ : MethodName)) hown (mvT hZ (hw _ (List.mem_of_getElem? (i := 8) rfl))) (mvT hZ (hw _ (List.mem_of_getElem? (i := 9) rfl))) (mvT hZ (hw _ (List.mem_of_getElem? (i := 10) rfl))) (mvT hZ (hw _ (List.mem_of_getElem? (i := 11) rfl))) (by decide) (backOf (W := 0) (own_wk1 l Z a0 hw [] pr (own_f1 (3 : Int32) r_ k_) ((own_f1 (3 : Int32) r_ k_).toNatClampNeg) (fun i => .int ((own_pf ((own_f1 (0 : Int32) r_ k_).toNatClampNeg) ((own_f1 (1 : Int32) r_ k_).toNatClampNeg) ((own_f1 (2 : Int32) r_ k_).toNatClampNeg) ((own_f1 (3 : Int32) r_ k_).toNatClampNeg) (own_f2 (-1 : Int32) r_ k_) (own_f2 l1 r_ k_) (own_f2 l2 r_ k_) (own_f2 (-1 : Int32) r_ k_)) i)) h0 n0 Z0 ⟨f3.1, rfl⟩ f3.2.1 (congrArg Value.int ((hpf.2.2.2).trans (own_img0 _ _ _ (by decide)))) A_pr) hZ (hw _ (List.mem_of_getElem? (i := 11) rfl)) (hw _ (List.mem_of_getElem? (i := 10) rfl)) (by decide) (by decide)) (g := (mkF m 270 #[.val (.int sh0), .val (.int pm0), .val (.int nd0), .val (.ref lp), .val (.int r_), .val (.int k_), .val (.ref pr), .val (.ref bf), .val (.int (3 : Int32)), .val (.int (-1 : Int32)), .val (.int (-1 : Int32)), .val (.int (-1 : Int32)), .val (.int (1 : Int32)), .unset, .unset] [(.int (own_f1 (3 : Int32) r_ k_)), (.ref pr)])) rfl (by rw [hml]; rfl) (argsL := [(.ref pr), (.int (own_f1 (3 : Int32) r_ k_))]) (rest := []) (lenOf own_pd_1 rfl) rfl (by show 2 * 0 + _ ≤ _; exact Nat.le_of_eq rfl) (hb hby at_270) (fun _ _ => ⟨rfl, e79, (by decide : 3 + 1 ≤ _), (by decide : 12 + 1 ≤ _)⟩)
      dsimp only [Pt.U, Pt.locs, Pt.cells, Pt.slots] at X80 l80 y80 z80 st80 hQ80
      subst l80 y80 z80
      obtain ⟨bb80, rfl, N80q, gb80, K80, fa80⟩ := hQ80
      have N80 := Fr.app N79 N80q
      have f81 := A_lp.keep K80 nin0
      have f82 := A_pr.keep K80 nin0
      have f83 := A_bf.keep K80 nin0
      have SZ80 : n0 ≤ T80.heap.size := Nat.le_trans Z0 K80.1
      refine own_by st80 ?_
      show own_Go p e below T80 (mkF m 273 #[.val (.int sh0), .val (.int pm0), .val (.int nd0), .val (.ref lp), .val (.int r_), .val (.int k_), .val (.ref pr), .val (.ref bf), .val (.int (3 : Int32)), .val (.int (-1 : Int32)), .val (.int (-1 : Int32)), .val (.int (-1 : Int32)), .val (.int (1 : Int32)), .unset, .unset] [(.ref bb80)]) _
      exact own_t1 hx hZ hw hby hml hown hnm hret hlk  sh0 pm0 nd0 r_ k_ (3 : Int32) (-1 : Int32) (-1 : Int32) (-1 : Int32) (own_f2 (-1 : Int32) r_ k_) (own_f2 l1 r_ k_) (own_f2 l2 r_ k_) (own_f2 (-1 : Int32) r_ k_) lp pr bf bb80 ((own_f1 (0 : Int32) r_ k_).toNatClampNeg) ((own_f1 (1 : Int32) r_ k_).toNatClampNeg) ((own_f1 (2 : Int32) r_ k_).toNatClampNeg) ((own_f1 (3 : Int32) r_ k_).toNatClampNeg) X80 rfl N80 SZ80 f82 f83 fa80
    ·
      show own_Go p e below T0 (mkF m 187 #[.val (.int sh0), .val (.int pm0), .val (.int nd0), .val (.ref lp), .val (.int r_), .val (.int k_), .val (.ref pr), .val (.ref bf), .val (.int (3 : Int32)), .unset, .unset, .unset, .unset, .unset, .unset] []) _
      refine own_s_aloadN X0.here hx (hb hby at_187) rfl rfl ?_
      refine own_s_iload X0.here hx (hb hby at_188) rfl ?_
      refine own_by (fun tq_ kq_ => own_ldI X0 hx hZ e0 A_lp (k := 3) (v := (.int (0 : Int32))) (by decide) (by decide) rfl (g := (mkF m 190 #[.val (.int sh0), .val (.int pm0), .val (.int nd0), .val (.ref lp), .val (.int r_), .val (.int k_), .val (.ref pr), .val (.ref bf), .val (.int (3 : Int32)), .unset, .unset, .unset, .unset, .unset, .unset] [(.int (3 : Int32)), (.ref lp)])) rfl rfl (hb hby at_190) tq_ kq_) ?_
      show own_Go p e below T0 (mkF m 191 #[.val (.int sh0), .val (.int pm0), .val (.int nd0), .val (.ref lp), .val (.int r_), .val (.int k_), .val (.ref pr), .val (.ref bf), .val (.int (3 : Int32)), .unset, .unset, .unset, .unset, .unset, .unset] [(.int (0 : Int32))]) _
      refine own_s_istore X0.here hx #[.val (.int sh0), .val (.int pm0), .val (.int nd0), .val (.ref lp), .val (.int r_), .val (.int k_), .val (.ref pr), .val (.ref bf), .val (.int (3 : Int32)), .val (.int (0 : Int32)), .unset, .unset, .unset, .unset, .unset] (hb hby at_191) rfl ?_
      refine own_s_iload X0.here hx (hb hby at_193) rfl ?_
      show own_Go p e below T0 (mkF m 195 #[.val (.int sh0), .val (.int pm0), .val (.int nd0), .val (.ref lp), .val (.int r_), .val (.int k_), .val (.ref pr), .val (.ref bf), .val (.int (3 : Int32)), .val (.int (0 : Int32)), .unset, .unset, .unset, .unset, .unset] [(.int (0 : Int32))]) _
      refine own_s_ifYes X0.here hx 202 (hb hby at_195) (Jvm.Free.XT.i0_ge_t ((by decide))) (by decide) (by decide) ?_
      refine own_s_aloadN X0.here hx (hb hby at_202) rfl rfl ?_
      refine own_s_iload X0.here hx (hb hby at_203) rfl ?_
      refine own_by (fun tq_ kq_ => own_ldI X0 hx hZ e0 A_lp (k := 0) (v := (.int (-1 : Int32))) (by decide) (by decide) rfl (g := (mkF m 205 #[.val (.int sh0), .val (.int pm0), .val (.int nd0), .val (.ref lp), .val (.int r_), .val (.int k_), .val (.ref pr), .val (.ref bf), .val (.int (3 : Int32)), .val (.int (0 : Int32)), .unset, .unset, .unset, .unset, .unset] [(.int (0 : Int32)), (.ref lp)])) rfl rfl (hb hby at_205) tq_ kq_) ?_
      show own_Go p e below T0 (mkF m 206 #[.val (.int sh0), .val (.int pm0), .val (.int nd0), .val (.ref lp), .val (.int r_), .val (.int k_), .val (.ref pr), .val (.ref bf), .val (.int (3 : Int32)), .val (.int (0 : Int32)), .unset, .unset, .unset, .unset, .unset] [(.int (-1 : Int32))]) _
      refine own_s_istore X0.here hx #[.val (.int sh0), .val (.int pm0), .val (.int nd0), .val (.ref lp), .val (.int r_), .val (.int k_), .val (.ref pr), .val (.ref bf), .val (.int (3 : Int32)), .val (.int (0 : Int32)), .val (.int (-1 : Int32)), .unset, .unset, .unset, .unset] (hb hby at_206) rfl ?_
      refine own_s_iload X0.here hx (hb hby at_208) rfl ?_
      refine own_s_ifNo X0.here hx (hb hby at_210) (Jvm.Free.XT.i0_ge_f ((by decide))) ?_
      refine own_s_iconst X0.here hx (-1 : Int32) (hb hby at_213) rfl ?_
      show own_Go p e below T0 (mkF m 214 #[.val (.int sh0), .val (.int pm0), .val (.int nd0), .val (.ref lp), .val (.int r_), .val (.int k_), .val (.ref pr), .val (.ref bf), .val (.int (3 : Int32)), .val (.int (0 : Int32)), .val (.int (-1 : Int32)), .unset, .unset, .unset, .unset] [(.int (-1 : Int32))]) _
      refine own_s_goto X0.here hx 221 (hb hby at_214) (by decide) (by decide) ?_
      refine own_s_istore X0.here hx #[.val (.int sh0), .val (.int pm0), .val (.int nd0), .val (.ref lp), .val (.int r_), .val (.int k_), .val (.ref pr), .val (.ref bf), .val (.int (3 : Int32)), .val (.int (0 : Int32)), .val (.int (-1 : Int32)), .val (.int (-1 : Int32)), .unset, .unset, .unset] (hb hby at_221) rfl ?_
      refine own_s_iconst X0.here hx (1 : Int32) (hb hby at_223) rfl ?_
      refine own_s_iload X0.here hx (hb hby at_224) rfl ?_
      refine own_s_ifNo X0.here hx (hb hby at_226) (Jvm.Free.XT.i0_lt_f ((by decide))) ?_
      refine own_s_iconst X0.here hx (1 : Int32) (hb hby at_229) rfl ?_
      show own_Go p e below T0 (mkF m 230 #[.val (.int sh0), .val (.int pm0), .val (.int nd0), .val (.ref lp), .val (.int r_), .val (.int k_), .val (.ref pr), .val (.ref bf), .val (.int (3 : Int32)), .val (.int (0 : Int32)), .val (.int (-1 : Int32)), .val (.int (-1 : Int32)), .unset, .unset, .unset] [(.int (1 : Int32)), (.int (1 : Int32))]) _
      refine own_s_goto X0.here hx 234 (hb hby at_230) (by decide) (by decide) ?_
      refine own_s_iadd X0.here hx (hb hby at_234) ?_
      refine own_s_iload X0.here hx (hb hby at_235) rfl ?_
      show own_Go p e below T0 (mkF m 237 #[.val (.int sh0), .val (.int pm0), .val (.int nd0), .val (.ref lp), .val (.int r_), .val (.int k_), .val (.ref pr), .val (.ref bf), .val (.int (3 : Int32)), .val (.int (0 : Int32)), .val (.int (-1 : Int32)), .val (.int (-1 : Int32)), .unset, .unset, .unset] [(.int (-1 : Int32)), (.int ((1 : Int32) + (1 : Int32)))]) _
      refine own_s_ifYes X0.here hx 244 (hb hby at_237) (Jvm.Free.XT.i0_lt_t ((by decide))) (by decide) (by decide) ?_
      refine own_s_iconst X0.here hx (0 : Int32) (hb hby at_244) rfl ?_
      refine own_s_iadd X0.here hx (hb hby at_245) ?_
      refine own_s_iload X0.here hx (hb hby at_246) rfl ?_
      show own_Go p e below T0 (mkF m 248 #[.val (.int sh0), .val (.int pm0), .val (.int nd0), .val (.ref lp), .val (.int r_), .val (.int k_), .val (.ref pr), .val (.ref bf), .val (.int (3 : Int32)), .val (.int (0 : Int32)), .val (.int (-1 : Int32)), .val (.int (-1 : Int32)), .unset, .unset, .unset] [(.int (-1 : Int32)), (.int (((1 : Int32) + (1 : Int32)) + (0 : Int32)))]) _
      refine own_s_ifYes X0.here hx 255 (hb hby at_248) (Jvm.Free.XT.i0_lt_t ((by decide))) (by decide) (by decide) ?_
      refine own_s_iconst X0.here hx (0 : Int32) (hb hby at_255) rfl ?_
      refine own_s_iadd X0.here hx (hb hby at_256) ?_
      show own_Go p e below T0 (mkF m 257 #[.val (.int sh0), .val (.int pm0), .val (.int nd0), .val (.ref lp), .val (.int r_), .val (.int k_), .val (.ref pr), .val (.ref bf), .val (.int (3 : Int32)), .val (.int (0 : Int32)), .val (.int (-1 : Int32)), .val (.int (-1 : Int32)), .unset, .unset, .unset] [(.int (2 : Int32))]) _
      refine own_s_istore X0.here hx #[.val (.int sh0), .val (.int pm0), .val (.int nd0), .val (.ref lp), .val (.int r_), .val (.int k_), .val (.ref pr), .val (.ref bf), .val (.int (3 : Int32)), .val (.int (0 : Int32)), .val (.int (-1 : Int32)), .val (.int (-1 : Int32)), .val (.int (2 : Int32)), .unset, .unset] (hb hby at_257) rfl ?_
      refine own_s_aload X0.here hx (hb hby at_259) rfl rfl ?_
      refine own_s_iload X0.here hx (hb hby at_261) rfl ?_
      refine own_s_iload X0.here hx (hb hby at_263) rfl ?_
      refine own_s_iload X0.here hx (hb hby at_265) rfl ?_
      obtain ⟨_, _, ⟨T84, L84, k84, n84⟩, -, X84, ⟨Lc84, hQ84, l84, y84, z84⟩, st84⟩ := Jvm.LawKit.callS X0 hx (y := (⟨"com/example/geodesic/geodesic/graph/ShortestPathsWalkPinLaw", "s", "(III)I"⟩ : MethodName)) hown (mvT hZ (hw _ (List.mem_of_getElem? (i := 1) rfl))) (mvT hZ (hw _ (List.mem_of_getElem? (i := 2) rfl))) (mvT hZ (hw _ (List.mem_of_getElem? (i := 3) rfl))) (mvT hZ (hw _ (List.mem_of_getElem? (i := 4) rfl))) (by decide) (backOf (W := 1) (own_r1 l Z a0 hw [] (3 : Int32) r_ k_  h0 n0 Z0 ) hZ (hw _ (List.mem_of_getElem? (i := 4) rfl)) (hw _ (List.mem_of_getElem? (i := 3) rfl)) (by decide) (by decide)) (g := (mkF m 267 #[.val (.int sh0), .val (.int pm0), .val (.int nd0), .val (.ref lp), .val (.int r_), .val (.int k_), .val (.ref pr), .val (.ref bf), .val (.int (3 : Int32)), .val (.int (0 : Int32)), .val (.int (-1 : Int32)), .val (.int (-1 : Int32)), .val (.int (2 : Int32)), .unset, .unset] [(.int k_), (.int r_), (.int (3 : Int32)), (.ref pr)])) rfl (by rw [hml]; rfl) (argsL := [(.int (3 : Int32)), (.int r_), (.int k_)]) (rest := [(.ref pr)]) (lenOf own_pd_0 rfl) rfl (by show 2 * 0 + _ ≤ _; exact Nat.le_of_eq rfl) (hb hby at_267) (fun _ _ => ⟨rfl, e0, (by decide : 3 + 0 ≤ _), (by decide : 12 + 0 ≤ _)⟩)
      dsimp only [Pt.U, Pt.locs, Pt.cells, Pt.slots] at X84 l84 y84 z84 st84 hQ84
      subst l84 y84 z84
      obtain ⟨rfl, N84q, e84⟩ := hQ84
      have N84 := Fr.app N0 N84q
      refine own_by st84 ?_
      show own_Go p e below T84 (mkF m 270 #[.val (.int sh0), .val (.int pm0), .val (.int nd0), .val (.ref lp), .val (.int r_), .val (.int k_), .val (.ref pr), .val (.ref bf), .val (.int (3 : Int32)), .val (.int (0 : Int32)), .val (.int (-1 : Int32)), .val (.int (-1 : Int32)), .val (.int (2 : Int32)), .unset, .unset] [(.int (own_f1 (3 : Int32) r_ k_)), (.ref pr)]) _
      obtain ⟨_, _, ⟨T85, L85, k85, n85⟩, -, X85, ⟨Lc85, hQ85, l85, y85, z85⟩, st85⟩ := Jvm.LawKit.callS X84 hx (y := (⟨"com/example/geodesic/geodesic/graph/ShortestPaths", "walk", "([II)[I"⟩ : MethodName)) hown (mvT hZ (hw _ (List.mem_of_getElem? (i := 8) rfl))) (mvT hZ (hw _ (List.mem_of_getElem? (i := 9) rfl))) (mvT hZ (hw _ (List.mem_of_getElem? (i := 10) rfl))) (mvT hZ (hw _ (List.mem_of_getElem? (i := 11) rfl))) (by decide) (backOf (W := 0) (own_wk2 l Z a0 hw [] pr (own_f1 (3 : Int32) r_ k_) (own_f1 (0 : Int32) r_ k_) ((own_f1 (3 : Int32) r_ k_).toNatClampNeg) ((own_f1 (0 : Int32) r_ k_).toNatClampNeg) (fun i => .int ((own_pf ((own_f1 (0 : Int32) r_ k_).toNatClampNeg) ((own_f1 (1 : Int32) r_ k_).toNatClampNeg) ((own_f1 (2 : Int32) r_ k_).toNatClampNeg) ((own_f1 (3 : Int32) r_ k_).toNatClampNeg) (own_f2 (-1 : Int32) r_ k_) (own_f2 l1 r_ k_) (own_f2 l2 r_ k_) (own_f2 (0 : Int32) r_ k_)) i)) h0 n0 Z0 ⟨f3.1, rfl⟩ f3.2.1 (congrArg Value.int ((hpf.2.2.2).trans (own_img _ _ _ (by decide)))) ⟨f0.1, rfl⟩ f0.2.1 (congrArg Value.int ((hpf.1).trans (own_img0 _ _ _ (by decide)))) f0.2.2 A_pr) hZ (hw _ (List.mem_of_getElem? (i := 11) rfl)) (hw _ (List.mem_of_getElem? (i := 10) rfl)) (by decide) (by decide)) (g := (mkF m 270 #[.val (.int sh0), .val (.int pm0), .val (.int nd0), .val (.ref lp), .val (.int r_), .val (.int k_), .val (.ref pr), .val (.ref bf), .val (.int (3 : Int32)), .val (.int (0 : Int32)), .val (.int (-1 : Int32)), .val (.int (-1 : Int32)), .val (.int (2 : Int32)), .unset, .unset] [(.int (own_f1 (3 : Int32) r_ k_)), (.ref pr)])) rfl (by rw [hml]; rfl) (argsL := [(.ref pr), (.int (own_f1 (3 : Int32) r_ k_))]) (rest := []) (lenOf own_pd_1 rfl) rfl (by show 2 * 0 + _ ≤ _; exact Nat.le_of_eq rfl) (hb hby at_270) (fun _ _ => ⟨rfl, e84, (by decide : 3 + 1 ≤ _), (by decide : 12 + 2 ≤ _)⟩)
      dsimp only [Pt.U, Pt.locs, Pt.cells, Pt.slots] at X85 l85 y85 z85 st85 hQ85
      subst l85 y85 z85
      obtain ⟨bb85, rfl, N85q, gb85, K85, fa85⟩ := hQ85
      have N85 := Fr.app N84 N85q
      have f86 := A_lp.keep K85 nin0
      have f87 := A_pr.keep K85 nin0
      have f88 := A_bf.keep K85 nin0
      have SZ85 : n0 ≤ T85.heap.size := Nat.le_trans Z0 K85.1
      refine own_by st85 ?_
      show own_Go p e below T85 (mkF m 273 #[.val (.int sh0), .val (.int pm0), .val (.int nd0), .val (.ref lp), .val (.int r_), .val (.int k_), .val (.ref pr), .val (.ref bf), .val (.int (3 : Int32)), .val (.int (0 : Int32)), .val (.int (-1 : Int32)), .val (.int (-1 : Int32)), .val (.int (2 : Int32)), .unset, .unset] [(.ref bb85)]) _
      exact own_t2 hx hZ hw hby hml hown hnm hret hlk  sh0 pm0 nd0 r_ k_ (3 : Int32) (0 : Int32) (-1 : Int32) (-1 : Int32) (own_f2 (-1 : Int32) r_ k_) (own_f2 l1 r_ k_) (own_f2 l2 r_ k_) (own_f2 (0 : Int32) r_ k_) lp pr bf bb85 ((own_f1 (0 : Int32) r_ k_).toNatClampNeg) ((own_f1 (1 : Int32) r_ k_).toNatClampNeg) ((own_f1 (2 : Int32) r_ k_).toNatClampNeg) ((own_f1 (3 : Int32) r_ k_).toNatClampNeg) X85 rfl N85 SZ85 f87 f88 fa85
    ·
      show own_Go p e below T0 (mkF m 187 #[.val (.int sh0), .val (.int pm0), .val (.int nd0), .val (.ref lp), .val (.int r_), .val (.int k_), .val (.ref pr), .val (.ref bf), .val (.int (3 : Int32)), .unset, .unset, .unset, .unset, .unset, .unset] []) _
      rcases hL1 with rfl | rfl
      ·
        show own_Go p e below T0 (mkF m 187 #[.val (.int sh0), .val (.int pm0), .val (.int nd0), .val (.ref lp), .val (.int r_), .val (.int k_), .val (.ref pr), .val (.ref bf), .val (.int (3 : Int32)), .unset, .unset, .unset, .unset, .unset, .unset] []) _
        refine own_s_aloadN X0.here hx (hb hby at_187) rfl rfl ?_
        refine own_s_iload X0.here hx (hb hby at_188) rfl ?_
        refine own_by (fun tq_ kq_ => own_ldI X0 hx hZ e0 A_lp (k := 3) (v := (.int (1 : Int32))) (by decide) (by decide) rfl (g := (mkF m 190 #[.val (.int sh0), .val (.int pm0), .val (.int nd0), .val (.ref lp), .val (.int r_), .val (.int k_), .val (.ref pr), .val (.ref bf), .val (.int (3 : Int32)), .unset, .unset, .unset, .unset, .unset, .unset] [(.int (3 : Int32)), (.ref lp)])) rfl rfl (hb hby at_190) tq_ kq_) ?_
        show own_Go p e below T0 (mkF m 191 #[.val (.int sh0), .val (.int pm0), .val (.int nd0), .val (.ref lp), .val (.int r_), .val (.int k_), .val (.ref pr), .val (.ref bf), .val (.int (3 : Int32)), .unset, .unset, .unset, .unset, .unset, .unset] [(.int (1 : Int32))]) _
        refine own_s_istore X0.here hx #[.val (.int sh0), .val (.int pm0), .val (.int nd0), .val (.ref lp), .val (.int r_), .val (.int k_), .val (.ref pr), .val (.ref bf), .val (.int (3 : Int32)), .val (.int (1 : Int32)), .unset, .unset, .unset, .unset, .unset] (hb hby at_191) rfl ?_
        refine own_s_iload X0.here hx (hb hby at_193) rfl ?_
        show own_Go p e below T0 (mkF m 195 #[.val (.int sh0), .val (.int pm0), .val (.int nd0), .val (.ref lp), .val (.int r_), .val (.int k_), .val (.ref pr), .val (.ref bf), .val (.int (3 : Int32)), .val (.int (1 : Int32)), .unset, .unset, .unset, .unset, .unset] [(.int (1 : Int32))]) _
        refine own_s_ifYes X0.here hx 202 (hb hby at_195) (Jvm.Free.XT.i0_ge_t ((by decide))) (by decide) (by decide) ?_
        refine own_s_aloadN X0.here hx (hb hby at_202) rfl rfl ?_
        refine own_s_iload X0.here hx (hb hby at_203) rfl ?_
        refine own_by (fun tq_ kq_ => own_ldI X0 hx hZ e0 A_lp (k := 1) (v := (.int (-1 : Int32))) (by decide) (by decide) rfl (g := (mkF m 205 #[.val (.int sh0), .val (.int pm0), .val (.int nd0), .val (.ref lp), .val (.int r_), .val (.int k_), .val (.ref pr), .val (.ref bf), .val (.int (3 : Int32)), .val (.int (1 : Int32)), .unset, .unset, .unset, .unset, .unset] [(.int (1 : Int32)), (.ref lp)])) rfl rfl (hb hby at_205) tq_ kq_) ?_
        show own_Go p e below T0 (mkF m 206 #[.val (.int sh0), .val (.int pm0), .val (.int nd0), .val (.ref lp), .val (.int r_), .val (.int k_), .val (.ref pr), .val (.ref bf), .val (.int (3 : Int32)), .val (.int (1 : Int32)), .unset, .unset, .unset, .unset, .unset] [(.int (-1 : Int32))]) _
        refine own_s_istore X0.here hx #[.val (.int sh0), .val (.int pm0), .val (.int nd0), .val (.ref lp), .val (.int r_), .val (.int k_), .val (.ref pr), .val (.ref bf), .val (.int (3 : Int32)), .val (.int (1 : Int32)), .val (.int (-1 : Int32)), .unset, .unset, .unset, .unset] (hb hby at_206) rfl ?_
        refine own_s_iload X0.here hx (hb hby at_208) rfl ?_
        refine own_s_ifNo X0.here hx (hb hby at_210) (Jvm.Free.XT.i0_ge_f ((by decide))) ?_
        refine own_s_iconst X0.here hx (-1 : Int32) (hb hby at_213) rfl ?_
        show own_Go p e below T0 (mkF m 214 #[.val (.int sh0), .val (.int pm0), .val (.int nd0), .val (.ref lp), .val (.int r_), .val (.int k_), .val (.ref pr), .val (.ref bf), .val (.int (3 : Int32)), .val (.int (1 : Int32)), .val (.int (-1 : Int32)), .unset, .unset, .unset, .unset] [(.int (-1 : Int32))]) _
        refine own_s_goto X0.here hx 221 (hb hby at_214) (by decide) (by decide) ?_
        refine own_s_istore X0.here hx #[.val (.int sh0), .val (.int pm0), .val (.int nd0), .val (.ref lp), .val (.int r_), .val (.int k_), .val (.ref pr), .val (.ref bf), .val (.int (3 : Int32)), .val (.int (1 : Int32)), .val (.int (-1 : Int32)), .val (.int (-1 : Int32)), .unset, .unset, .unset] (hb hby at_221) rfl ?_
        refine own_s_iconst X0.here hx (1 : Int32) (hb hby at_223) rfl ?_
        refine own_s_iload X0.here hx (hb hby at_224) rfl ?_
        refine own_s_ifNo X0.here hx (hb hby at_226) (Jvm.Free.XT.i0_lt_f ((by decide))) ?_
        refine own_s_iconst X0.here hx (1 : Int32) (hb hby at_229) rfl ?_
        show own_Go p e below T0 (mkF m 230 #[.val (.int sh0), .val (.int pm0), .val (.int nd0), .val (.ref lp), .val (.int r_), .val (.int k_), .val (.ref pr), .val (.ref bf), .val (.int (3 : Int32)), .val (.int (1 : Int32)), .val (.int (-1 : Int32)), .val (.int (-1 : Int32)), .unset, .unset, .unset] [(.int (1 : Int32)), (.int (1 : Int32))]) _
        refine own_s_goto X0.here hx 234 (hb hby at_230) (by decide) (by decide) ?_
        refine own_s_iadd X0.here hx (hb hby at_234) ?_
        refine own_s_iload X0.here hx (hb hby at_235) rfl ?_
        show own_Go p e below T0 (mkF m 237 #[.val (.int sh0), .val (.int pm0), .val (.int nd0), .val (.ref lp), .val (.int r_), .val (.int k_), .val (.ref pr), .val (.ref bf), .val (.int (3 : Int32)), .val (.int (1 : Int32)), .val (.int (-1 : Int32)), .val (.int (-1 : Int32)), .unset, .unset, .unset] [(.int (-1 : Int32)), (.int ((1 : Int32) + (1 : Int32)))]) _
        refine own_s_ifYes X0.here hx 244 (hb hby at_237) (Jvm.Free.XT.i0_lt_t ((by decide))) (by decide) (by decide) ?_
        refine own_s_iconst X0.here hx (0 : Int32) (hb hby at_244) rfl ?_
        refine own_s_iadd X0.here hx (hb hby at_245) ?_
        refine own_s_iload X0.here hx (hb hby at_246) rfl ?_
        show own_Go p e below T0 (mkF m 248 #[.val (.int sh0), .val (.int pm0), .val (.int nd0), .val (.ref lp), .val (.int r_), .val (.int k_), .val (.ref pr), .val (.ref bf), .val (.int (3 : Int32)), .val (.int (1 : Int32)), .val (.int (-1 : Int32)), .val (.int (-1 : Int32)), .unset, .unset, .unset] [(.int (-1 : Int32)), (.int (((1 : Int32) + (1 : Int32)) + (0 : Int32)))]) _
        refine own_s_ifYes X0.here hx 255 (hb hby at_248) (Jvm.Free.XT.i0_lt_t ((by decide))) (by decide) (by decide) ?_
        refine own_s_iconst X0.here hx (0 : Int32) (hb hby at_255) rfl ?_
        refine own_s_iadd X0.here hx (hb hby at_256) ?_
        show own_Go p e below T0 (mkF m 257 #[.val (.int sh0), .val (.int pm0), .val (.int nd0), .val (.ref lp), .val (.int r_), .val (.int k_), .val (.ref pr), .val (.ref bf), .val (.int (3 : Int32)), .val (.int (1 : Int32)), .val (.int (-1 : Int32)), .val (.int (-1 : Int32)), .unset, .unset, .unset] [(.int (2 : Int32))]) _
        refine own_s_istore X0.here hx #[.val (.int sh0), .val (.int pm0), .val (.int nd0), .val (.ref lp), .val (.int r_), .val (.int k_), .val (.ref pr), .val (.ref bf), .val (.int (3 : Int32)), .val (.int (1 : Int32)), .val (.int (-1 : Int32)), .val (.int (-1 : Int32)), .val (.int (2 : Int32)), .unset, .unset] (hb hby at_257) rfl ?_
        refine own_s_aload X0.here hx (hb hby at_259) rfl rfl ?_
        refine own_s_iload X0.here hx (hb hby at_261) rfl ?_
        refine own_s_iload X0.here hx (hb hby at_263) rfl ?_
        refine own_s_iload X0.here hx (hb hby at_265) rfl ?_
        obtain ⟨_, _, ⟨T89, L89, k89, n89⟩, -, X89, ⟨Lc89, hQ89, l89, y89, z89⟩, st89⟩ := Jvm.LawKit.callS X0 hx (y := (⟨"com/example/geodesic/geodesic/graph/ShortestPathsWalkPinLaw", "s", "(III)I"⟩ : MethodName)) hown (mvT hZ (hw _ (List.mem_of_getElem? (i := 1) rfl))) (mvT hZ (hw _ (List.mem_of_getElem? (i := 2) rfl))) (mvT hZ (hw _ (List.mem_of_getElem? (i := 3) rfl))) (mvT hZ (hw _ (List.mem_of_getElem? (i := 4) rfl))) (by decide) (backOf (W := 1) (own_r1 l Z a0 hw [] (3 : Int32) r_ k_  h0 n0 Z0 ) hZ (hw _ (List.mem_of_getElem? (i := 4) rfl)) (hw _ (List.mem_of_getElem? (i := 3) rfl)) (by decide) (by decide)) (g := (mkF m 267 #[.val (.int sh0), .val (.int pm0), .val (.int nd0), .val (.ref lp), .val (.int r_), .val (.int k_), .val (.ref pr), .val (.ref bf), .val (.int (3 : Int32)), .val (.int (1 : Int32)), .val (.int (-1 : Int32)), .val (.int (-1 : Int32)), .val (.int (2 : Int32)), .unset, .unset] [(.int k_), (.int r_), (.int (3 : Int32)), (.ref pr)])) rfl (by rw [hml]; rfl) (argsL := [(.int (3 : Int32)), (.int r_), (.int k_)]) (rest := [(.ref pr)]) (lenOf own_pd_0 rfl) rfl (by show 2 * 0 + _ ≤ _; exact Nat.le_of_eq rfl) (hb hby at_267) (fun _ _ => ⟨rfl, e0, (by decide : 3 + 0 ≤ _), (by decide : 12 + 0 ≤ _)⟩)
        dsimp only [Pt.U, Pt.locs, Pt.cells, Pt.slots] at X89 l89 y89 z89 st89 hQ89
        subst l89 y89 z89
        obtain ⟨rfl, N89q, e89⟩ := hQ89
        have N89 := Fr.app N0 N89q
        refine own_by st89 ?_
        show own_Go p e below T89 (mkF m 270 #[.val (.int sh0), .val (.int pm0), .val (.int nd0), .val (.ref lp), .val (.int r_), .val (.int k_), .val (.ref pr), .val (.ref bf), .val (.int (3 : Int32)), .val (.int (1 : Int32)), .val (.int (-1 : Int32)), .val (.int (-1 : Int32)), .val (.int (2 : Int32)), .unset, .unset] [(.int (own_f1 (3 : Int32) r_ k_)), (.ref pr)]) _
        obtain ⟨_, _, ⟨T90, L90, k90, n90⟩, -, X90, ⟨Lc90, hQ90, l90, y90, z90⟩, st90⟩ := Jvm.LawKit.callS X89 hx (y := (⟨"com/example/geodesic/geodesic/graph/ShortestPaths", "walk", "([II)[I"⟩ : MethodName)) hown (mvT hZ (hw _ (List.mem_of_getElem? (i := 8) rfl))) (mvT hZ (hw _ (List.mem_of_getElem? (i := 9) rfl))) (mvT hZ (hw _ (List.mem_of_getElem? (i := 10) rfl))) (mvT hZ (hw _ (List.mem_of_getElem? (i := 11) rfl))) (by decide) (backOf (W := 0) (own_wk2 l Z a0 hw [] pr (own_f1 (3 : Int32) r_ k_) (own_f1 (1 : Int32) r_ k_) ((own_f1 (3 : Int32) r_ k_).toNatClampNeg) ((own_f1 (1 : Int32) r_ k_).toNatClampNeg) (fun i => .int ((own_pf ((own_f1 (0 : Int32) r_ k_).toNatClampNeg) ((own_f1 (1 : Int32) r_ k_).toNatClampNeg) ((own_f1 (2 : Int32) r_ k_).toNatClampNeg) ((own_f1 (3 : Int32) r_ k_).toNatClampNeg) (own_f2 (-1 : Int32) r_ k_) (own_f2 (-1 : Int32) r_ k_) (own_f2 l2 r_ k_) (own_f2 (1 : Int32) r_ k_)) i)) h0 n0 Z0 ⟨f3.1, rfl⟩ f3.2.1 (congrArg Value.int ((hpf.2.2.2).trans (own_img _ _ _ (by decide)))) ⟨f1.1, rfl⟩ f1.2.1 (congrArg Value.int ((hpf.2.1).trans (own_img0 _ _ _ (by decide)))) f1.2.2 A_pr) hZ (hw _ (List.mem_of_getElem? (i := 11) rfl)) (hw _ (List.mem_of_getElem? (i := 10) rfl)) (by decide) (by decide)) (g := (mkF m 270 #[.val (.int sh0), .val (.int pm0), .val (.int nd0), .val (.ref lp), .val (.int r_), .val (.int k_), .val (.ref pr), .val (.ref bf), .val (.int (3 : Int32)), .val (.int (1 : Int32)), .val (.int (-1 : Int32)), .val (.int (-1 : Int32)), .val (.int (2 : Int32)), .unset, .unset] [(.int (own_f1 (3 : Int32) r_ k_)), (.ref pr)])) rfl (by rw [hml]; rfl) (argsL := [(.ref pr), (.int (own_f1 (3 : Int32) r_ k_))]) (rest := []) (lenOf own_pd_1 rfl) rfl (by show 2 * 0 + _ ≤ _; exact Nat.le_of_eq rfl) (hb hby at_270) (fun _ _ => ⟨rfl, e89, (by decide : 3 + 1 ≤ _), (by decide : 12 + 2 ≤ _)⟩)
        dsimp only [Pt.U, Pt.locs, Pt.cells, Pt.slots] at X90 l90 y90 z90 st90 hQ90
        subst l90 y90 z90
        obtain ⟨bb90, rfl, N90q, gb90, K90, fa90⟩ := hQ90
        have N90 := Fr.app N89 N90q
        have f91 := A_lp.keep K90 nin0
        have f92 := A_pr.keep K90 nin0
        have f93 := A_bf.keep K90 nin0
        have SZ90 : n0 ≤ T90.heap.size := Nat.le_trans Z0 K90.1
        refine own_by st90 ?_
        show own_Go p e below T90 (mkF m 273 #[.val (.int sh0), .val (.int pm0), .val (.int nd0), .val (.ref lp), .val (.int r_), .val (.int k_), .val (.ref pr), .val (.ref bf), .val (.int (3 : Int32)), .val (.int (1 : Int32)), .val (.int (-1 : Int32)), .val (.int (-1 : Int32)), .val (.int (2 : Int32)), .unset, .unset] [(.ref bb90)]) _
        exact own_t2 hx hZ hw hby hml hown hnm hret hlk  sh0 pm0 nd0 r_ k_ (3 : Int32) (1 : Int32) (-1 : Int32) (-1 : Int32) (own_f2 (-1 : Int32) r_ k_) (own_f2 (-1 : Int32) r_ k_) (own_f2 l2 r_ k_) (own_f2 (1 : Int32) r_ k_) lp pr bf bb90 ((own_f1 (0 : Int32) r_ k_).toNatClampNeg) ((own_f1 (1 : Int32) r_ k_).toNatClampNeg) ((own_f1 (2 : Int32) r_ k_).toNatClampNeg) ((own_f1 (3 : Int32) r_ k_).toNatClampNeg) X90 rfl N90 SZ90 f92 f93 fa90
      ·
        show own_Go p e below T0 (mkF m 187 #[.val (.int sh0), .val (.int pm0), .val (.int nd0), .val (.ref lp), .val (.int r_), .val (.int k_), .val (.ref pr), .val (.ref bf), .val (.int (3 : Int32)), .unset, .unset, .unset, .unset, .unset, .unset] []) _
        refine own_s_aloadN X0.here hx (hb hby at_187) rfl rfl ?_
        refine own_s_iload X0.here hx (hb hby at_188) rfl ?_
        refine own_by (fun tq_ kq_ => own_ldI X0 hx hZ e0 A_lp (k := 3) (v := (.int (1 : Int32))) (by decide) (by decide) rfl (g := (mkF m 190 #[.val (.int sh0), .val (.int pm0), .val (.int nd0), .val (.ref lp), .val (.int r_), .val (.int k_), .val (.ref pr), .val (.ref bf), .val (.int (3 : Int32)), .unset, .unset, .unset, .unset, .unset, .unset] [(.int (3 : Int32)), (.ref lp)])) rfl rfl (hb hby at_190) tq_ kq_) ?_
        show own_Go p e below T0 (mkF m 191 #[.val (.int sh0), .val (.int pm0), .val (.int nd0), .val (.ref lp), .val (.int r_), .val (.int k_), .val (.ref pr), .val (.ref bf), .val (.int (3 : Int32)), .unset, .unset, .unset, .unset, .unset, .unset] [(.int (1 : Int32))]) _
        refine own_s_istore X0.here hx #[.val (.int sh0), .val (.int pm0), .val (.int nd0), .val (.ref lp), .val (.int r_), .val (.int k_), .val (.ref pr), .val (.ref bf), .val (.int (3 : Int32)), .val (.int (1 : Int32)), .unset, .unset, .unset, .unset, .unset] (hb hby at_191) rfl ?_
        refine own_s_iload X0.here hx (hb hby at_193) rfl ?_
        show own_Go p e below T0 (mkF m 195 #[.val (.int sh0), .val (.int pm0), .val (.int nd0), .val (.ref lp), .val (.int r_), .val (.int k_), .val (.ref pr), .val (.ref bf), .val (.int (3 : Int32)), .val (.int (1 : Int32)), .unset, .unset, .unset, .unset, .unset] [(.int (1 : Int32))]) _
        refine own_s_ifYes X0.here hx 202 (hb hby at_195) (Jvm.Free.XT.i0_ge_t ((by decide))) (by decide) (by decide) ?_
        refine own_s_aloadN X0.here hx (hb hby at_202) rfl rfl ?_
        refine own_s_iload X0.here hx (hb hby at_203) rfl ?_
        refine own_by (fun tq_ kq_ => own_ldI X0 hx hZ e0 A_lp (k := 1) (v := (.int (0 : Int32))) (by decide) (by decide) rfl (g := (mkF m 205 #[.val (.int sh0), .val (.int pm0), .val (.int nd0), .val (.ref lp), .val (.int r_), .val (.int k_), .val (.ref pr), .val (.ref bf), .val (.int (3 : Int32)), .val (.int (1 : Int32)), .unset, .unset, .unset, .unset, .unset] [(.int (1 : Int32)), (.ref lp)])) rfl rfl (hb hby at_205) tq_ kq_) ?_
        show own_Go p e below T0 (mkF m 206 #[.val (.int sh0), .val (.int pm0), .val (.int nd0), .val (.ref lp), .val (.int r_), .val (.int k_), .val (.ref pr), .val (.ref bf), .val (.int (3 : Int32)), .val (.int (1 : Int32)), .unset, .unset, .unset, .unset, .unset] [(.int (0 : Int32))]) _
        refine own_s_istore X0.here hx #[.val (.int sh0), .val (.int pm0), .val (.int nd0), .val (.ref lp), .val (.int r_), .val (.int k_), .val (.ref pr), .val (.ref bf), .val (.int (3 : Int32)), .val (.int (1 : Int32)), .val (.int (0 : Int32)), .unset, .unset, .unset, .unset] (hb hby at_206) rfl ?_
        refine own_s_iload X0.here hx (hb hby at_208) rfl ?_
        show own_Go p e below T0 (mkF m 210 #[.val (.int sh0), .val (.int pm0), .val (.int nd0), .val (.ref lp), .val (.int r_), .val (.int k_), .val (.ref pr), .val (.ref bf), .val (.int (3 : Int32)), .val (.int (1 : Int32)), .val (.int (0 : Int32)), .unset, .unset, .unset, .unset] [(.int (0 : Int32))]) _
        refine own_s_ifYes X0.here hx 217 (hb hby at_210) (Jvm.Free.XT.i0_ge_t ((by decide))) (by decide) (by decide) ?_
        refine own_s_aloadN X0.here hx (hb hby at_217) rfl rfl ?_
        refine own_s_iload X0.here hx (hb hby at_218) rfl ?_
        refine own_by (fun tq_ kq_ => own_ldI X0 hx hZ e0 A_lp (k := 0) (v := (.int (-1 : Int32))) (by decide) (by decide) rfl (g := (mkF m 220 #[.val (.int sh0), .val (.int pm0), .val (.int nd0), .val (.ref lp), .val (.int r_), .val (.int k_), .val (.ref pr), .val (.ref bf), .val (.int (3 : Int32)), .val (.int (1 : Int32)), .val (.int (0 : Int32)), .unset, .unset, .unset, .unset] [(.int (0 : Int32)), (.ref lp)])) rfl rfl (hb hby at_220) tq_ kq_) ?_
        show own_Go p e below T0 (mkF m 221 #[.val (.int sh0), .val (.int pm0), .val (.int nd0), .val (.ref lp), .val (.int r_), .val (.int k_), .val (.ref pr), .val (.ref bf), .val (.int (3 : Int32)), .val (.int (1 : Int32)), .val (.int (0 : Int32)), .unset, .unset, .unset, .unset] [(.int (-1 : Int32))]) _
        refine own_s_istore X0.here hx #[.val (.int sh0), .val (.int pm0), .val (.int nd0), .val (.ref lp), .val (.int r_), .val (.int k_), .val (.ref pr), .val (.ref bf), .val (.int (3 : Int32)), .val (.int (1 : Int32)), .val (.int (0 : Int32)), .val (.int (-1 : Int32)), .unset, .unset, .unset] (hb hby at_221) rfl ?_
        refine own_s_iconst X0.here hx (1 : Int32) (hb hby at_223) rfl ?_
        refine own_s_iload X0.here hx (hb hby at_224) rfl ?_
        refine own_s_ifNo X0.here hx (hb hby at_226) (Jvm.Free.XT.i0_lt_f ((by decide))) ?_
        refine own_s_iconst X0.here hx (1 : Int32) (hb hby at_229) rfl ?_
        show own_Go p e below T0 (mkF m 230 #[.val (.int sh0), .val (.int pm0), .val (.int nd0), .val (.ref lp), .val (.int r_), .val (.int k_), .val (.ref pr), .val (.ref bf), .val (.int (3 : Int32)), .val (.int (1 : Int32)), .val (.int (0 : Int32)), .val (.int (-1 : Int32)), .unset, .unset, .unset] [(.int (1 : Int32)), (.int (1 : Int32))]) _
        refine own_s_goto X0.here hx 234 (hb hby at_230) (by decide) (by decide) ?_
        refine own_s_iadd X0.here hx (hb hby at_234) ?_
        refine own_s_iload X0.here hx (hb hby at_235) rfl ?_
        refine own_s_ifNo X0.here hx (hb hby at_237) (Jvm.Free.XT.i0_lt_f ((by decide))) ?_
        refine own_s_iconst X0.here hx (1 : Int32) (hb hby at_240) rfl ?_
        show own_Go p e below T0 (mkF m 241 #[.val (.int sh0), .val (.int pm0), .val (.int nd0), .val (.ref lp), .val (.int r_), .val (.int k_), .val (.ref pr), .val (.ref bf), .val (.int (3 : Int32)), .val (.int (1 : Int32)), .val (.int (0 : Int32)), .val (.int (-1 : Int32)), .unset, .unset, .unset] [(.int (1 : Int32)), (.int ((1 : Int32) + (1 : Int32)))]) _
        refine own_s_goto X0.here hx 245 (hb hby at_241) (by decide) (by decide) ?_
        refine own_s_iadd X0.here hx (hb hby at_245) ?_
        refine own_s_iload X0.here hx (hb hby at_246) rfl ?_
        show own_Go p e below T0 (mkF m 248 #[.val (.int sh0), .val (.int pm0), .val (.int nd0), .val (.ref lp), .val (.int r_), .val (.int k_), .val (.ref pr), .val (.ref bf), .val (.int (3 : Int32)), .val (.int (1 : Int32)), .val (.int (0 : Int32)), .val (.int (-1 : Int32)), .unset, .unset, .unset] [(.int (-1 : Int32)), (.int (((1 : Int32) + (1 : Int32)) + (1 : Int32)))]) _
        refine own_s_ifYes X0.here hx 255 (hb hby at_248) (Jvm.Free.XT.i0_lt_t ((by decide))) (by decide) (by decide) ?_
        refine own_s_iconst X0.here hx (0 : Int32) (hb hby at_255) rfl ?_
        refine own_s_iadd X0.here hx (hb hby at_256) ?_
        show own_Go p e below T0 (mkF m 257 #[.val (.int sh0), .val (.int pm0), .val (.int nd0), .val (.ref lp), .val (.int r_), .val (.int k_), .val (.ref pr), .val (.ref bf), .val (.int (3 : Int32)), .val (.int (1 : Int32)), .val (.int (0 : Int32)), .val (.int (-1 : Int32)), .unset, .unset, .unset] [(.int (3 : Int32))]) _
        refine own_s_istore X0.here hx #[.val (.int sh0), .val (.int pm0), .val (.int nd0), .val (.ref lp), .val (.int r_), .val (.int k_), .val (.ref pr), .val (.ref bf), .val (.int (3 : Int32)), .val (.int (1 : Int32)), .val (.int (0 : Int32)), .val (.int (-1 : Int32)), .val (.int (3 : Int32)), .unset, .unset] (hb hby at_257) rfl ?_
        refine own_s_aload X0.here hx (hb hby at_259) rfl rfl ?_
        refine own_s_iload X0.here hx (hb hby at_261) rfl ?_
        refine own_s_iload X0.here hx (hb hby at_263) rfl ?_
        refine own_s_iload X0.here hx (hb hby at_265) rfl ?_
        obtain ⟨_, _, ⟨T94, L94, k94, n94⟩, -, X94, ⟨Lc94, hQ94, l94, y94, z94⟩, st94⟩ := Jvm.LawKit.callS X0 hx (y := (⟨"com/example/geodesic/geodesic/graph/ShortestPathsWalkPinLaw", "s", "(III)I"⟩ : MethodName)) hown (mvT hZ (hw _ (List.mem_of_getElem? (i := 1) rfl))) (mvT hZ (hw _ (List.mem_of_getElem? (i := 2) rfl))) (mvT hZ (hw _ (List.mem_of_getElem? (i := 3) rfl))) (mvT hZ (hw _ (List.mem_of_getElem? (i := 4) rfl))) (by decide) (backOf (W := 1) (own_r1 l Z a0 hw [] (3 : Int32) r_ k_  h0 n0 Z0 ) hZ (hw _ (List.mem_of_getElem? (i := 4) rfl)) (hw _ (List.mem_of_getElem? (i := 3) rfl)) (by decide) (by decide)) (g := (mkF m 267 #[.val (.int sh0), .val (.int pm0), .val (.int nd0), .val (.ref lp), .val (.int r_), .val (.int k_), .val (.ref pr), .val (.ref bf), .val (.int (3 : Int32)), .val (.int (1 : Int32)), .val (.int (0 : Int32)), .val (.int (-1 : Int32)), .val (.int (3 : Int32)), .unset, .unset] [(.int k_), (.int r_), (.int (3 : Int32)), (.ref pr)])) rfl (by rw [hml]; rfl) (argsL := [(.int (3 : Int32)), (.int r_), (.int k_)]) (rest := [(.ref pr)]) (lenOf own_pd_0 rfl) rfl (by show 2 * 0 + _ ≤ _; exact Nat.le_of_eq rfl) (hb hby at_267) (fun _ _ => ⟨rfl, e0, (by decide : 3 + 0 ≤ _), (by decide : 12 + 0 ≤ _)⟩)
        dsimp only [Pt.U, Pt.locs, Pt.cells, Pt.slots] at X94 l94 y94 z94 st94 hQ94
        subst l94 y94 z94
        obtain ⟨rfl, N94q, e94⟩ := hQ94
        have N94 := Fr.app N0 N94q
        refine own_by st94 ?_
        show own_Go p e below T94 (mkF m 270 #[.val (.int sh0), .val (.int pm0), .val (.int nd0), .val (.ref lp), .val (.int r_), .val (.int k_), .val (.ref pr), .val (.ref bf), .val (.int (3 : Int32)), .val (.int (1 : Int32)), .val (.int (0 : Int32)), .val (.int (-1 : Int32)), .val (.int (3 : Int32)), .unset, .unset] [(.int (own_f1 (3 : Int32) r_ k_)), (.ref pr)]) _
        obtain ⟨_, _, ⟨T95, L95, k95, n95⟩, -, X95, ⟨Lc95, hQ95, l95, y95, z95⟩, st95⟩ := Jvm.LawKit.callS X94 hx (y := (⟨"com/example/geodesic/geodesic/graph/ShortestPaths", "walk", "([II)[I"⟩ : MethodName)) hown (mvT hZ (hw _ (List.mem_of_getElem? (i := 8) rfl))) (mvT hZ (hw _ (List.mem_of_getElem? (i := 9) rfl))) (mvT hZ (hw _ (List.mem_of_getElem? (i := 10) rfl))) (mvT hZ (hw _ (List.mem_of_getElem? (i := 11) rfl))) (by decide) (backOf (W := 0) (own_wk3 l Z a0 hw [] pr (own_f1 (3 : Int32) r_ k_) (own_f1 (1 : Int32) r_ k_) (own_f1 (0 : Int32) r_ k_) ((own_f1 (3 : Int32) r_ k_).toNatClampNeg) ((own_f1 (1 : Int32) r_ k_).toNatClampNeg) ((own_f1 (0 : Int32) r_ k_).toNatClampNeg) (fun i => .int ((own_pf ((own_f1 (0 : Int32) r_ k_).toNatClampNeg) ((own_f1 (1 : Int32) r_ k_).toNatClampNeg) ((own_f1 (2 : Int32) r_ k_).toNatClampNeg) ((own_f1 (3 : Int32) r_ k_).toNatClampNeg) (own_f2 (-1 : Int32) r_ k_) (own_f2 (0 : Int32) r_ k_) (own_f2 l2 r_ k_) (own_f2 (1 : Int32) r_ k_)) i)) h0 n0 Z0 ⟨f3.1, rfl⟩ f3.2.1 (congrArg Value.int ((hpf.2.2.2).trans (own_img _ _ _ (by decide)))) ⟨f1.1, rfl⟩ f1.2.1 (congrArg Value.int ((hpf.2.1).trans (own_img _ _ _ (by decide)))) f1.2.2 ⟨f0.1, rfl⟩ f0.2.1 (congrArg Value.int ((hpf.1).trans (own_img0 _ _ _ (by decide)))) f0.2.2 A_pr) hZ (hw _ (List.mem_of_getElem? (i := 11) rfl)) (hw _ (List.mem_of_getElem? (i := 10) rfl)) (by decide) (by decide)) (g := (mkF m 270 #[.val (.int sh0), .val (.int pm0), .val (.int nd0), .val (.ref lp), .val (.int r_), .val (.int k_), .val (.ref pr), .val (.ref bf), .val (.int (3 : Int32)), .val (.int (1 : Int32)), .val (.int (0 : Int32)), .val (.int (-1 : Int32)), .val (.int (3 : Int32)), .unset, .unset] [(.int (own_f1 (3 : Int32) r_ k_)), (.ref pr)])) rfl (by rw [hml]; rfl) (argsL := [(.ref pr), (.int (own_f1 (3 : Int32) r_ k_))]) (rest := []) (lenOf own_pd_1 rfl) rfl (by show 2 * 0 + _ ≤ _; exact Nat.le_of_eq rfl) (hb hby at_270) (fun _ _ => ⟨rfl, e94, (by decide : 3 + 1 ≤ _), (by decide : 12 + 3 ≤ _)⟩)
        dsimp only [Pt.U, Pt.locs, Pt.cells, Pt.slots] at X95 l95 y95 z95 st95 hQ95
        subst l95 y95 z95
        obtain ⟨bb95, rfl, N95q, gb95, K95, fa95⟩ := hQ95
        have N95 := Fr.app N94 N95q
        have f96 := A_lp.keep K95 nin0
        have f97 := A_pr.keep K95 nin0
        have f98 := A_bf.keep K95 nin0
        have SZ95 : n0 ≤ T95.heap.size := Nat.le_trans Z0 K95.1
        refine own_by st95 ?_
        show own_Go p e below T95 (mkF m 273 #[.val (.int sh0), .val (.int pm0), .val (.int nd0), .val (.ref lp), .val (.int r_), .val (.int k_), .val (.ref pr), .val (.ref bf), .val (.int (3 : Int32)), .val (.int (1 : Int32)), .val (.int (0 : Int32)), .val (.int (-1 : Int32)), .val (.int (3 : Int32)), .unset, .unset] [(.ref bb95)]) _
        exact own_t3 hx hZ hw hby hml hown hnm hret hlk  sh0 pm0 nd0 r_ k_ (3 : Int32) (1 : Int32) (0 : Int32) (-1 : Int32) (own_f2 (-1 : Int32) r_ k_) (own_f2 (0 : Int32) r_ k_) (own_f2 l2 r_ k_) (own_f2 (1 : Int32) r_ k_) lp pr bf bb95 ((own_f1 (0 : Int32) r_ k_).toNatClampNeg) ((own_f1 (1 : Int32) r_ k_).toNatClampNeg) ((own_f1 (2 : Int32) r_ k_).toNatClampNeg) ((own_f1 (3 : Int32) r_ k_).toNatClampNeg) X95 rfl N95 SZ95 f97 f98 fa95
    ·
      show own_Go p e below T0 (mkF m 187 #[.val (.int sh0), .val (.int pm0), .val (.int nd0), .val (.ref lp), .val (.int r_), .val (.int k_), .val (.ref pr), .val (.ref bf), .val (.int (3 : Int32)), .unset, .unset, .unset, .unset, .unset, .unset] []) _
      rcases hL2 with rfl | rfl | rfl
      ·
        show own_Go p e below T0 (mkF m 187 #[.val (.int sh0), .val (.int pm0), .val (.int nd0), .val (.ref lp), .val (.int r_), .val (.int k_), .val (.ref pr), .val (.ref bf), .val (.int (3 : Int32)), .unset, .unset, .unset, .unset, .unset, .unset] []) _
        refine own_s_aloadN X0.here hx (hb hby at_187) rfl rfl ?_
        refine own_s_iload X0.here hx (hb hby at_188) rfl ?_
        refine own_by (fun tq_ kq_ => own_ldI X0 hx hZ e0 A_lp (k := 3) (v := (.int (2 : Int32))) (by decide) (by decide) rfl (g := (mkF m 190 #[.val (.int sh0), .val (.int pm0), .val (.int nd0), .val (.ref lp), .val (.int r_), .val (.int k_), .val (.ref pr), .val (.ref bf), .val (.int (3 : Int32)), .unset, .unset, .unset, .unset, .unset, .unset] [(.int (3 : Int32)), (.ref lp)])) rfl rfl (hb hby at_190) tq_ kq_) ?_
        show own_Go p e below T0 (mkF m 191 #[.val (.int sh0), .val (.int pm0), .val (.int nd0), .val (.ref lp), .val (.int r_), .val (.int k_), .val (.ref pr), .val (.ref bf), .val (.int (3 : Int32)), .unset, .unset, .unset, .unset, .unset, .unset] [(.int (2 : Int32))]) _
        refine own_s_istore X0.here hx #[.val (.int sh0), .val (.int pm0), .val (.int nd0), .val (.ref lp), .val (.int r_), .val (.int k_), .val (.ref pr), .val (.ref bf), .val (.int (3 : Int32)), .val (.int (2 : Int32)), .unset, .unset, .unset, .unset, .unset] (hb hby at_191) rfl ?_
        refine own_s_iload X0.here hx (hb hby at_193) rfl ?_
        show own_Go p e below T0 (mkF m 195 #[.val (.int sh0), .val (.int pm0), .val (.int nd0), .val (.ref lp), .val (.int r_), .val (.int k_), .val (.ref pr), .val (.ref bf), .val (.int (3 : Int32)), .val (.int (2 : Int32)), .unset, .unset, .unset, .unset, .unset] [(.int (2 : Int32))]) _
        refine own_s_ifYes X0.here hx 202 (hb hby at_195) (Jvm.Free.XT.i0_ge_t ((by decide))) (by decide) (by decide) ?_
        refine own_s_aloadN X0.here hx (hb hby at_202) rfl rfl ?_
        refine own_s_iload X0.here hx (hb hby at_203) rfl ?_
        refine own_by (fun tq_ kq_ => own_ldI X0 hx hZ e0 A_lp (k := 2) (v := (.int (-1 : Int32))) (by decide) (by decide) rfl (g := (mkF m 205 #[.val (.int sh0), .val (.int pm0), .val (.int nd0), .val (.ref lp), .val (.int r_), .val (.int k_), .val (.ref pr), .val (.ref bf), .val (.int (3 : Int32)), .val (.int (2 : Int32)), .unset, .unset, .unset, .unset, .unset] [(.int (2 : Int32)), (.ref lp)])) rfl rfl (hb hby at_205) tq_ kq_) ?_
        show own_Go p e below T0 (mkF m 206 #[.val (.int sh0), .val (.int pm0), .val (.int nd0), .val (.ref lp), .val (.int r_), .val (.int k_), .val (.ref pr), .val (.ref bf), .val (.int (3 : Int32)), .val (.int (2 : Int32)), .unset, .unset, .unset, .unset, .unset] [(.int (-1 : Int32))]) _
        refine own_s_istore X0.here hx #[.val (.int sh0), .val (.int pm0), .val (.int nd0), .val (.ref lp), .val (.int r_), .val (.int k_), .val (.ref pr), .val (.ref bf), .val (.int (3 : Int32)), .val (.int (2 : Int32)), .val (.int (-1 : Int32)), .unset, .unset, .unset, .unset] (hb hby at_206) rfl ?_
        refine own_s_iload X0.here hx (hb hby at_208) rfl ?_
        refine own_s_ifNo X0.here hx (hb hby at_210) (Jvm.Free.XT.i0_ge_f ((by decide))) ?_
        refine own_s_iconst X0.here hx (-1 : Int32) (hb hby at_213) rfl ?_
        show own_Go p e below T0 (mkF m 214 #[.val (.int sh0), .val (.int pm0), .val (.int nd0), .val (.ref lp), .val (.int r_), .val (.int k_), .val (.ref pr), .val (.ref bf), .val (.int (3 : Int32)), .val (.int (2 : Int32)), .val (.int (-1 : Int32)), .unset, .unset, .unset, .unset] [(.int (-1 : Int32))]) _
        refine own_s_goto X0.here hx 221 (hb hby at_214) (by decide) (by decide) ?_
        refine own_s_istore X0.here hx #[.val (.int sh0), .val (.int pm0), .val (.int nd0), .val (.ref lp), .val (.int r_), .val (.int k_), .val (.ref pr), .val (.ref bf), .val (.int (3 : Int32)), .val (.int (2 : Int32)), .val (.int (-1 : Int32)), .val (.int (-1 : Int32)), .unset, .unset, .unset] (hb hby at_221) rfl ?_
        refine own_s_iconst X0.here hx (1 : Int32) (hb hby at_223) rfl ?_
        refine own_s_iload X0.here hx (hb hby at_224) rfl ?_
        refine own_s_ifNo X0.here hx (hb hby at_226) (Jvm.Free.XT.i0_lt_f ((by decide))) ?_
        refine own_s_iconst X0.here hx (1 : Int32) (hb hby at_229) rfl ?_
        show own_Go p e below T0 (mkF m 230 #[.val (.int sh0), .val (.int pm0), .val (.int nd0), .val (.ref lp), .val (.int r_), .val (.int k_), .val (.ref pr), .val (.ref bf), .val (.int (3 : Int32)), .val (.int (2 : Int32)), .val (.int (-1 : Int32)), .val (.int (-1 : Int32)), .unset, .unset, .unset] [(.int (1 : Int32)), (.int (1 : Int32))]) _
        refine own_s_goto X0.here hx 234 (hb hby at_230) (by decide) (by decide) ?_
        refine own_s_iadd X0.here hx (hb hby at_234) ?_
        refine own_s_iload X0.here hx (hb hby at_235) rfl ?_
        show own_Go p e below T0 (mkF m 237 #[.val (.int sh0), .val (.int pm0), .val (.int nd0), .val (.ref lp), .val (.int r_), .val (.int k_), .val (.ref pr), .val (.ref bf), .val (.int (3 : Int32)), .val (.int (2 : Int32)), .val (.int (-1 : Int32)), .val (.int (-1 : Int32)), .unset, .unset, .unset] [(.int (-1 : Int32)), (.int ((1 : Int32) + (1 : Int32)))]) _
        refine own_s_ifYes X0.here hx 244 (hb hby at_237) (Jvm.Free.XT.i0_lt_t ((by decide))) (by decide) (by decide) ?_
        refine own_s_iconst X0.here hx (0 : Int32) (hb hby at_244) rfl ?_
        refine own_s_iadd X0.here hx (hb hby at_245) ?_
        refine own_s_iload X0.here hx (hb hby at_246) rfl ?_
        show own_Go p e below T0 (mkF m 248 #[.val (.int sh0), .val (.int pm0), .val (.int nd0), .val (.ref lp), .val (.int r_), .val (.int k_), .val (.ref pr), .val (.ref bf), .val (.int (3 : Int32)), .val (.int (2 : Int32)), .val (.int (-1 : Int32)), .val (.int (-1 : Int32)), .unset, .unset, .unset] [(.int (-1 : Int32)), (.int (((1 : Int32) + (1 : Int32)) + (0 : Int32)))]) _
        refine own_s_ifYes X0.here hx 255 (hb hby at_248) (Jvm.Free.XT.i0_lt_t ((by decide))) (by decide) (by decide) ?_
        refine own_s_iconst X0.here hx (0 : Int32) (hb hby at_255) rfl ?_
        refine own_s_iadd X0.here hx (hb hby at_256) ?_
        show own_Go p e below T0 (mkF m 257 #[.val (.int sh0), .val (.int pm0), .val (.int nd0), .val (.ref lp), .val (.int r_), .val (.int k_), .val (.ref pr), .val (.ref bf), .val (.int (3 : Int32)), .val (.int (2 : Int32)), .val (.int (-1 : Int32)), .val (.int (-1 : Int32)), .unset, .unset, .unset] [(.int (2 : Int32))]) _
        refine own_s_istore X0.here hx #[.val (.int sh0), .val (.int pm0), .val (.int nd0), .val (.ref lp), .val (.int r_), .val (.int k_), .val (.ref pr), .val (.ref bf), .val (.int (3 : Int32)), .val (.int (2 : Int32)), .val (.int (-1 : Int32)), .val (.int (-1 : Int32)), .val (.int (2 : Int32)), .unset, .unset] (hb hby at_257) rfl ?_
        refine own_s_aload X0.here hx (hb hby at_259) rfl rfl ?_
        refine own_s_iload X0.here hx (hb hby at_261) rfl ?_
        refine own_s_iload X0.here hx (hb hby at_263) rfl ?_
        refine own_s_iload X0.here hx (hb hby at_265) rfl ?_
        obtain ⟨_, _, ⟨T99, L99, k99, n99⟩, -, X99, ⟨Lc99, hQ99, l99, y99, z99⟩, st99⟩ := Jvm.LawKit.callS X0 hx (y := (⟨"com/example/geodesic/geodesic/graph/ShortestPathsWalkPinLaw", "s", "(III)I"⟩ : MethodName)) hown (mvT hZ (hw _ (List.mem_of_getElem? (i := 1) rfl))) (mvT hZ (hw _ (List.mem_of_getElem? (i := 2) rfl))) (mvT hZ (hw _ (List.mem_of_getElem? (i := 3) rfl))) (mvT hZ (hw _ (List.mem_of_getElem? (i := 4) rfl))) (by decide) (backOf (W := 1) (own_r1 l Z a0 hw [] (3 : Int32) r_ k_  h0 n0 Z0 ) hZ (hw _ (List.mem_of_getElem? (i := 4) rfl)) (hw _ (List.mem_of_getElem? (i := 3) rfl)) (by decide) (by decide)) (g := (mkF m 267 #[.val (.int sh0), .val (.int pm0), .val (.int nd0), .val (.ref lp), .val (.int r_), .val (.int k_), .val (.ref pr), .val (.ref bf), .val (.int (3 : Int32)), .val (.int (2 : Int32)), .val (.int (-1 : Int32)), .val (.int (-1 : Int32)), .val (.int (2 : Int32)), .unset, .unset] [(.int k_), (.int r_), (.int (3 : Int32)), (.ref pr)])) rfl (by rw [hml]; rfl) (argsL := [(.int (3 : Int32)), (.int r_), (.int k_)]) (rest := [(.ref pr)]) (lenOf own_pd_0 rfl) rfl (by show 2 * 0 + _ ≤ _; exact Nat.le_of_eq rfl) (hb hby at_267) (fun _ _ => ⟨rfl, e0, (by decide : 3 + 0 ≤ _), (by decide : 12 + 0 ≤ _)⟩)
        dsimp only [Pt.U, Pt.locs, Pt.cells, Pt.slots] at X99 l99 y99 z99 st99 hQ99
        subst l99 y99 z99
        obtain ⟨rfl, N99q, e99⟩ := hQ99
        have N99 := Fr.app N0 N99q
        refine own_by st99 ?_
        show own_Go p e below T99 (mkF m 270 #[.val (.int sh0), .val (.int pm0), .val (.int nd0), .val (.ref lp), .val (.int r_), .val (.int k_), .val (.ref pr), .val (.ref bf), .val (.int (3 : Int32)), .val (.int (2 : Int32)), .val (.int (-1 : Int32)), .val (.int (-1 : Int32)), .val (.int (2 : Int32)), .unset, .unset] [(.int (own_f1 (3 : Int32) r_ k_)), (.ref pr)]) _
        obtain ⟨_, _, ⟨T100, L100, k100, n100⟩, -, X100, ⟨Lc100, hQ100, l100, y100, z100⟩, st100⟩ := Jvm.LawKit.callS X99 hx (y := (⟨"com/example/geodesic/geodesic/graph/ShortestPaths", "walk", "([II)[I"⟩ : MethodName)) hown (mvT hZ (hw _ (List.mem_of_getElem? (i := 8) rfl))) (mvT hZ (hw _ (List.mem_of_getElem? (i := 9) rfl))) (mvT hZ (hw _ (List.mem_of_getElem? (i := 10) rfl))) (mvT hZ (hw _ (List.mem_of_getElem? (i := 11) rfl))) (by decide) (backOf (W := 0) (own_wk2 l Z a0 hw [] pr (own_f1 (3 : Int32) r_ k_) (own_f1 (2 : Int32) r_ k_) ((own_f1 (3 : Int32) r_ k_).toNatClampNeg) ((own_f1 (2 : Int32) r_ k_).toNatClampNeg) (fun i => .int ((own_pf ((own_f1 (0 : Int32) r_ k_).toNatClampNeg) ((own_f1 (1 : Int32) r_ k_).toNatClampNeg) ((own_f1 (2 : Int32) r_ k_).toNatClampNeg) ((own_f1 (3 : Int32) r_ k_).toNatClampNeg) (own_f2 (-1 : Int32) r_ k_) (own_f2 l1 r_ k_) (own_f2 (-1 : Int32) r_ k_) (own_f2 (2 : Int32) r_ k_)) i)) h0 n0 Z0 ⟨f3.1, rfl⟩ f3.2.1 (congrArg Value.int ((hpf.2.2.2).trans (own_img _ _ _ (by decide)))) ⟨f2.1, rfl⟩ f2.2.1 (congrArg Value.int ((hpf.2.2.1).trans (own_img0 _ _ _ (by decide)))) f2.2.2 A_pr) hZ (hw _ (List.mem_of_getElem? (i := 11) rfl)) (hw _ (List.mem_of_getElem? (i := 10) rfl)) (by decide) (by decide)) (g := (mkF m 270 #[.val (.int sh0), .val (.int pm0), .val (.int nd0), .val (.ref lp), .val (.int r_), .val (.int k_), .val (.ref pr), .val (.ref bf), .val (.int (3 : Int32)), .val (.int (2 : Int32)), .val (.int (-1 : Int32)), .val (.int (-1 : Int32)), .val (.int (2 : Int32)), .unset, .unset] [(.int (own_f1 (3 : Int32) r_ k_)), (.ref pr)])) rfl (by rw [hml]; rfl) (argsL := [(.ref pr), (.int (own_f1 (3 : Int32) r_ k_))]) (rest := []) (lenOf own_pd_1 rfl) rfl (by show 2 * 0 + _ ≤ _; exact Nat.le_of_eq rfl) (hb hby at_270) (fun _ _ => ⟨rfl, e99, (by decide : 3 + 1 ≤ _), (by decide : 12 + 2 ≤ _)⟩)
        dsimp only [Pt.U, Pt.locs, Pt.cells, Pt.slots] at X100 l100 y100 z100 st100 hQ100
        subst l100 y100 z100
        obtain ⟨bb100, rfl, N100q, gb100, K100, fa100⟩ := hQ100
        have N100 := Fr.app N99 N100q
        have f101 := A_lp.keep K100 nin0
        have f102 := A_pr.keep K100 nin0
        have f103 := A_bf.keep K100 nin0
        have SZ100 : n0 ≤ T100.heap.size := Nat.le_trans Z0 K100.1
        refine own_by st100 ?_
        show own_Go p e below T100 (mkF m 273 #[.val (.int sh0), .val (.int pm0), .val (.int nd0), .val (.ref lp), .val (.int r_), .val (.int k_), .val (.ref pr), .val (.ref bf), .val (.int (3 : Int32)), .val (.int (2 : Int32)), .val (.int (-1 : Int32)), .val (.int (-1 : Int32)), .val (.int (2 : Int32)), .unset, .unset] [(.ref bb100)]) _
        exact own_t2 hx hZ hw hby hml hown hnm hret hlk  sh0 pm0 nd0 r_ k_ (3 : Int32) (2 : Int32) (-1 : Int32) (-1 : Int32) (own_f2 (-1 : Int32) r_ k_) (own_f2 l1 r_ k_) (own_f2 (-1 : Int32) r_ k_) (own_f2 (2 : Int32) r_ k_) lp pr bf bb100 ((own_f1 (0 : Int32) r_ k_).toNatClampNeg) ((own_f1 (1 : Int32) r_ k_).toNatClampNeg) ((own_f1 (2 : Int32) r_ k_).toNatClampNeg) ((own_f1 (3 : Int32) r_ k_).toNatClampNeg) X100 rfl N100 SZ100 f102 f103 fa100
      ·
        show own_Go p e below T0 (mkF m 187 #[.val (.int sh0), .val (.int pm0), .val (.int nd0), .val (.ref lp), .val (.int r_), .val (.int k_), .val (.ref pr), .val (.ref bf), .val (.int (3 : Int32)), .unset, .unset, .unset, .unset, .unset, .unset] []) _
        refine own_s_aloadN X0.here hx (hb hby at_187) rfl rfl ?_
        refine own_s_iload X0.here hx (hb hby at_188) rfl ?_
        refine own_by (fun tq_ kq_ => own_ldI X0 hx hZ e0 A_lp (k := 3) (v := (.int (2 : Int32))) (by decide) (by decide) rfl (g := (mkF m 190 #[.val (.int sh0), .val (.int pm0), .val (.int nd0), .val (.ref lp), .val (.int r_), .val (.int k_), .val (.ref pr), .val (.ref bf), .val (.int (3 : Int32)), .unset, .unset, .unset, .unset, .unset, .unset] [(.int (3 : Int32)), (.ref lp)])) rfl rfl (hb hby at_190) tq_ kq_) ?_
        show own_Go p e below T0 (mkF m 191 #[.val (.int sh0), .val (.int pm0), .val (.int nd0), .val (.ref lp), .val (.int r_), .val (.int k_), .val (.ref pr), .val (.ref bf), .val (.int (3 : Int32)), .unset, .unset, .unset, .unset, .unset, .unset] [(.int (2 : Int32))]) _
        refine own_s_istore X0.here hx #[.val (.int sh0), .val (.int pm0), .val (.int nd0), .val (.ref lp), .val (.int r_), .val (.int k_), .val (.ref pr), .val (.ref bf), .val (.int (3 : Int32)), .val (.int (2 : Int32)), .unset, .unset, .unset, .unset, .unset] (hb hby at_191) rfl ?_
        refine own_s_iload X0.here hx (hb hby at_193) rfl ?_
        show own_Go p e below T0 (mkF m 195 #[.val (.int sh0), .val (.int pm0), .val (.int nd0), .val (.ref lp), .val (.int r_), .val (.int k_), .val (.ref pr), .val (.ref bf), .val (.int (3 : Int32)), .val (.int (2 : Int32)), .unset, .unset, .unset, .unset, .unset] [(.int (2 : Int32))]) _
        refine own_s_ifYes X0.here hx 202 (hb hby at_195) (Jvm.Free.XT.i0_ge_t ((by decide))) (by decide) (by decide) ?_
        refine own_s_aloadN X0.here hx (hb hby at_202) rfl rfl ?_
        refine own_s_iload X0.here hx (hb hby at_203) rfl ?_
        refine own_by (fun tq_ kq_ => own_ldI X0 hx hZ e0 A_lp (k := 2) (v := (.int (0 : Int32))) (by decide) (by decide) rfl (g := (mkF m 205 #[.val (.int sh0), .val (.int pm0), .val (.int nd0), .val (.ref lp), .val (.int r_), .val (.int k_), .val (.ref pr), .val (.ref bf), .val (.int (3 : Int32)), .val (.int (2 : Int32)), .unset, .unset, .unset, .unset, .unset] [(.int (2 : Int32)), (.ref lp)])) rfl rfl (hb hby at_205) tq_ kq_) ?_
        show own_Go p e below T0 (mkF m 206 #[.val (.int sh0), .val (.int pm0), .val (.int nd0), .val (.ref lp), .val (.int r_), .val (.int k_), .val (.ref pr), .val (.ref bf), .val (.int (3 : Int32)), .val (.int (2 : Int32)), .unset, .unset, .unset, .unset, .unset] [(.int (0 : Int32))]) _
        refine own_s_istore X0.here hx #[.val (.int sh0), .val (.int pm0), .val (.int nd0), .val (.ref lp), .val (.int r_), .val (.int k_), .val (.ref pr), .val (.ref bf), .val (.int (3 : Int32)), .val (.int (2 : Int32)), .val (.int (0 : Int32)), .unset, .unset, .unset, .unset] (hb hby at_206) rfl ?_
        refine own_s_iload X0.here hx (hb hby at_208) rfl ?_
        show own_Go p e below T0 (mkF m 210 #[.val (.int sh0), .val (.int pm0), .val (.int nd0), .val (.ref lp), .val (.int r_), .val (.int k_), .val (.ref pr), .val (.ref bf), .val (.int (3 : Int32)), .val (.int (2 : Int32)), .val (.int (0 : Int32)), .unset, .unset, .unset, .unset] [(.int (0 : Int32))]) _
        refine own_s_ifYes X0.here hx 217 (hb hby at_210) (Jvm.Free.XT.i0_ge_t ((by decide))) (by decide) (by decide) ?_
        refine own_s_aloadN X0.here hx (hb hby at_217) rfl rfl ?_
        refine own_s_iload X0.here hx (hb hby at_218) rfl ?_
        refine own_by (fun tq_ kq_ => own_ldI X0 hx hZ e0 A_lp (k := 0) (v := (.int (-1 : Int32))) (by decide) (by decide) rfl (g := (mkF m 220 #[.val (.int sh0), .val (.int pm0), .val (.int nd0), .val (.ref lp), .val (.int r_), .val (.int k_), .val (.ref pr), .val (.ref bf), .val (.int (3 : Int32)), .val (.int (2 : Int32)), .val (.int (0 : Int32)), .unset, .unset, .unset, .unset] [(.int (0 : Int32)), (.ref lp)])) rfl rfl (hb hby at_220) tq_ kq_) ?_
        show own_Go p e below T0 (mkF m 221 #[.val (.int sh0), .val (.int pm0), .val (.int nd0), .val (.ref lp), .val (.int r_), .val (.int k_), .val (.ref pr), .val (.ref bf), .val (.int (3 : Int32)), .val (.int (2 : Int32)), .val (.int (0 : Int32)), .unset, .unset, .unset, .unset] [(.int (-1 : Int32))]) _
        refine own_s_istore X0.here hx #[.val (.int sh0), .val (.int pm0), .val (.int nd0), .val (.ref lp), .val (.int r_), .val (.int k_), .val (.ref pr), .val (.ref bf), .val (.int (3 : Int32)), .val (.int (2 : Int32)), .val (.int (0 : Int32)), .val (.int (-1 : Int32)), .unset, .unset, .unset] (hb hby at_221) rfl ?_
        refine own_s_iconst X0.here hx (1 : Int32) (hb hby at_223) rfl ?_
        refine own_s_iload X0.here hx (hb hby at_224) rfl ?_
        refine own_s_ifNo X0.here hx (hb hby at_226) (Jvm.Free.XT.i0_lt_f ((by decide))) ?_
        refine own_s_iconst X0.here hx (1 : Int32) (hb hby at_229) rfl ?_
        show own_Go p e below T0 (mkF m 230 #[.val (.int sh0), .val (.int pm0), .val (.int nd0), .val (.ref lp), .val (.int r_), .val (.int k_), .val (.ref pr), .val (.ref bf), .val (.int (3 : Int32)), .val (.int (2 : Int32)), .val (.int (0 : Int32)), .val (.int (-1 : Int32)), .unset, .unset, .unset] [(.int (1 : Int32)), (.int (1 : Int32))]) _
        refine own_s_goto X0.here hx 234 (hb hby at_230) (by decide) (by decide) ?_
        refine own_s_iadd X0.here hx (hb hby at_234) ?_
        refine own_s_iload X0.here hx (hb hby at_235) rfl ?_
        refine own_s_ifNo X0.here hx (hb hby at_237) (Jvm.Free.XT.i0_lt_f ((by decide))) ?_
        refine own_s_iconst X0.here hx (1 : Int32) (hb hby at_240) rfl ?_
        show own_Go p e below T0 (mkF m 241 #[.val (.int sh0), .val (.int pm0), .val (.int nd0), .val (.ref lp), .val (.int r_), .val (.int k_), .val (.ref pr), .val (.ref bf), .val (.int (3 : Int32)), .val (.int (2 : Int32)), .val (.int (0 : Int32)), .val (.int (-1 : Int32)), .unset, .unset, .unset] [(.int (1 : Int32)), (.int ((1 : Int32) + (1 : Int32)))]) _
        refine own_s_goto X0.here hx 245 (hb hby at_241) (by decide) (by decide) ?_
        refine own_s_iadd X0.here hx (hb hby at_245) ?_
        refine own_s_iload X0.here hx (hb hby at_246) rfl ?_
        show own_Go p e below T0 (mkF m 248 #[.val (.int sh0), .val (.int pm0), .val (.int nd0), .val (.ref lp), .val (.int r_), .val (.int k_), .val (.ref pr), .val (.ref bf), .val (.int (3 : Int32)), .val (.int (2 : Int32)), .val (.int (0 : Int32)), .val (.int (-1 : Int32)), .unset, .unset, .unset] [(.int (-1 : Int32)), (.int (((1 : Int32) + (1 : Int32)) + (1 : Int32)))]) _
        refine own_s_ifYes X0.here hx 255 (hb hby at_248) (Jvm.Free.XT.i0_lt_t ((by decide))) (by decide) (by decide) ?_
        refine own_s_iconst X0.here hx (0 : Int32) (hb hby at_255) rfl ?_
        refine own_s_iadd X0.here hx (hb hby at_256) ?_
        show own_Go p e below T0 (mkF m 257 #[.val (.int sh0), .val (.int pm0), .val (.int nd0), .val (.ref lp), .val (.int r_), .val (.int k_), .val (.ref pr), .val (.ref bf), .val (.int (3 : Int32)), .val (.int (2 : Int32)), .val (.int (0 : Int32)), .val (.int (-1 : Int32)), .unset, .unset, .unset] [(.int (3 : Int32))]) _
        refine own_s_istore X0.here hx #[.val (.int sh0), .val (.int pm0), .val (.int nd0), .val (.ref lp), .val (.int r_), .val (.int k_), .val (.ref pr), .val (.ref bf), .val (.int (3 : Int32)), .val (.int (2 : Int32)), .val (.int (0 : Int32)), .val (.int (-1 : Int32)), .val (.int (3 : Int32)), .unset, .unset] (hb hby at_257) rfl ?_
        refine own_s_aload X0.here hx (hb hby at_259) rfl rfl ?_
        refine own_s_iload X0.here hx (hb hby at_261) rfl ?_
        refine own_s_iload X0.here hx (hb hby at_263) rfl ?_
        refine own_s_iload X0.here hx (hb hby at_265) rfl ?_
        obtain ⟨_, _, ⟨T104, L104, k104, n104⟩, -, X104, ⟨Lc104, hQ104, l104, y104, z104⟩, st104⟩ := Jvm.LawKit.callS X0 hx (y := (⟨"com/example/geodesic/geodesic/graph/ShortestPathsWalkPinLaw", "s", "(III)I"⟩ : MethodName)) hown (mvT hZ (hw _ (List.mem_of_getElem? (i := 1) rfl))) (mvT hZ (hw _ (List.mem_of_getElem? (i := 2) rfl))) (mvT hZ (hw _ (List.mem_of_getElem? (i := 3) rfl))) (mvT hZ (hw _ (List.mem_of_getElem? (i := 4) rfl))) (by decide) (backOf (W := 1) (own_r1 l Z a0 hw [] (3 : Int32) r_ k_  h0 n0 Z0 ) hZ (hw _ (List.mem_of_getElem? (i := 4) rfl)) (hw _ (List.mem_of_getElem? (i := 3) rfl)) (by decide) (by decide)) (g := (mkF m 267 #[.val (.int sh0), .val (.int pm0), .val (.int nd0), .val (.ref lp), .val (.int r_), .val (.int k_), .val (.ref pr), .val (.ref bf), .val (.int (3 : Int32)), .val (.int (2 : Int32)), .val (.int (0 : Int32)), .val (.int (-1 : Int32)), .val (.int (3 : Int32)), .unset, .unset] [(.int k_), (.int r_), (.int (3 : Int32)), (.ref pr)])) rfl (by rw [hml]; rfl) (argsL := [(.int (3 : Int32)), (.int r_), (.int k_)]) (rest := [(.ref pr)]) (lenOf own_pd_0 rfl) rfl (by show 2 * 0 + _ ≤ _; exact Nat.le_of_eq rfl) (hb hby at_267) (fun _ _ => ⟨rfl, e0, (by decide : 3 + 0 ≤ _), (by decide : 12 + 0 ≤ _)⟩)
        dsimp only [Pt.U, Pt.locs, Pt.cells, Pt.slots] at X104 l104 y104 z104 st104 hQ104
        subst l104 y104 z104
        obtain ⟨rfl, N104q, e104⟩ := hQ104
        have N104 := Fr.app N0 N104q
        refine own_by st104 ?_
        show own_Go p e below T104 (mkF m 270 #[.val (.int sh0), .val (.int pm0), .val (.int nd0), .val (.ref lp), .val (.int r_), .val (.int k_), .val (.ref pr), .val (.ref bf), .val (.int (3 : Int32)), .val (.int (2 : Int32)), .val (.int (0 : Int32)), .val (.int (-1 : Int32)), .val (.int (3 : Int32)), .unset, .unset] [(.int (own_f1 (3 : Int32) r_ k_)), (.ref pr)]) _
        obtain ⟨_, _, ⟨T105, L105, k105, n105⟩, -, X105, ⟨Lc105, hQ105, l105, y105, z105⟩, st105⟩ := Jvm.LawKit.callS X104 hx (y := (⟨"com/example/geodesic/geodesic/graph/ShortestPaths", "walk", "([II)[I"⟩ : MethodName)) hown (mvT hZ (hw _ (List.mem_of_getElem? (i := 8) rfl))) (mvT hZ (hw _ (List.mem_of_getElem? (i := 9) rfl))) (mvT hZ (hw _ (List.mem_of_getElem? (i := 10) rfl))) (mvT hZ (hw _ (List.mem_of_getElem? (i := 11) rfl))) (by decide) (backOf (W := 0) (own_wk3 l Z a0 hw [] pr (own_f1 (3 : Int32) r_ k_) (own_f1 (2 : Int32) r_ k_) (own_f1 (0 : Int32) r_ k_) ((own_f1 (3 : Int32) r_ k_).toNatClampNeg) ((own_f1 (2 : Int32) r_ k_).toNatClampNeg) ((own_f1 (0 : Int32) r_ k_).toNatClampNeg) (fun i => .int ((own_pf ((own_f1 (0 : Int32) r_ k_).toNatClampNeg) ((own_f1 (1 : Int32) r_ k_).toNatClampNeg) ((own_f1 (2 : Int32) r_ k_).toNatClampNeg) ((own_f1 (3 : Int32) r_ k_).toNatClampNeg) (own_f2 (-1 : Int32) r_ k_) (own_f2 l1 r_ k_) (own_f2 (0 : Int32) r_ k_) (own_f2 (2 : Int32) r_ k_)) i)) h0 n0 Z0 ⟨f3.1, rfl⟩ f3.2.1 (congrArg Value.int ((hpf.2.2.2).trans (own_img _ _ _ (by decide)))) ⟨f2.1, rfl⟩ f2.2.1 (congrArg Value.int ((hpf.2.2.1).trans (own_img _ _ _ (by decide)))) f2.2.2 ⟨f0.1, rfl⟩ f0.2.1 (congrArg Value.int ((hpf.1).trans (own_img0 _ _ _ (by decide)))) f0.2.2 A_pr) hZ (hw _ (List.mem_of_getElem? (i := 11) rfl)) (hw _ (List.mem_of_getElem? (i := 10) rfl)) (by decide) (by decide)) (g := (mkF m 270 #[.val (.int sh0), .val (.int pm0), .val (.int nd0), .val (.ref lp), .val (.int r_), .val (.int k_), .val (.ref pr), .val (.ref bf), .val (.int (3 : Int32)), .val (.int (2 : Int32)), .val (.int (0 : Int32)), .val (.int (-1 : Int32)), .val (.int (3 : Int32)), .unset, .unset] [(.int (own_f1 (3 : Int32) r_ k_)), (.ref pr)])) rfl (by rw [hml]; rfl) (argsL := [(.ref pr), (.int (own_f1 (3 : Int32) r_ k_))]) (rest := []) (lenOf own_pd_1 rfl) rfl (by show 2 * 0 + _ ≤ _; exact Nat.le_of_eq rfl) (hb hby at_270) (fun _ _ => ⟨rfl, e104, (by decide : 3 + 1 ≤ _), (by decide : 12 + 3 ≤ _)⟩)
        dsimp only [Pt.U, Pt.locs, Pt.cells, Pt.slots] at X105 l105 y105 z105 st105 hQ105
        subst l105 y105 z105
        obtain ⟨bb105, rfl, N105q, gb105, K105, fa105⟩ := hQ105
        have N105 := Fr.app N104 N105q
        have f106 := A_lp.keep K105 nin0
        have f107 := A_pr.keep K105 nin0
        have f108 := A_bf.keep K105 nin0
        have SZ105 : n0 ≤ T105.heap.size := Nat.le_trans Z0 K105.1
        refine own_by st105 ?_
        show own_Go p e below T105 (mkF m 273 #[.val (.int sh0), .val (.int pm0), .val (.int nd0), .val (.ref lp), .val (.int r_), .val (.int k_), .val (.ref pr), .val (.ref bf), .val (.int (3 : Int32)), .val (.int (2 : Int32)), .val (.int (0 : Int32)), .val (.int (-1 : Int32)), .val (.int (3 : Int32)), .unset, .unset] [(.ref bb105)]) _
        exact own_t3 hx hZ hw hby hml hown hnm hret hlk  sh0 pm0 nd0 r_ k_ (3 : Int32) (2 : Int32) (0 : Int32) (-1 : Int32) (own_f2 (-1 : Int32) r_ k_) (own_f2 l1 r_ k_) (own_f2 (0 : Int32) r_ k_) (own_f2 (2 : Int32) r_ k_) lp pr bf bb105 ((own_f1 (0 : Int32) r_ k_).toNatClampNeg) ((own_f1 (1 : Int32) r_ k_).toNatClampNeg) ((own_f1 (2 : Int32) r_ k_).toNatClampNeg) ((own_f1 (3 : Int32) r_ k_).toNatClampNeg) X105 rfl N105 SZ105 f107 f108 fa105
      ·
        show own_Go p e below T0 (mkF m 187 #[.val (.int sh0), .val (.int pm0), .val (.int nd0), .val (.ref lp), .val (.int r_), .val (.int k_), .val (.ref pr), .val (.ref bf), .val (.int (3 : Int32)), .unset, .unset, .unset, .unset, .unset, .unset] []) _
        rcases hL1 with rfl | rfl
        ·
          show own_Go p e below T0 (mkF m 187 #[.val (.int sh0), .val (.int pm0), .val (.int nd0), .val (.ref lp), .val (.int r_), .val (.int k_), .val (.ref pr), .val (.ref bf), .val (.int (3 : Int32)), .unset, .unset, .unset, .unset, .unset, .unset] []) _
          refine own_s_aloadN X0.here hx (hb hby at_187) rfl rfl ?_
          refine own_s_iload X0.here hx (hb hby at_188) rfl ?_
          refine own_by (fun tq_ kq_ => own_ldI X0 hx hZ e0 A_lp (k := 3) (v := (.int (2 : Int32))) (by decide) (by decide) rfl (g := (mkF m 190 #[.val (.int sh0), .val (.int pm0), .val (.int nd0), .val (.ref lp), .val (.int r_), .val (.int k_), .val (.ref pr), .val (.ref bf), .val (.int (3 : Int32)), .unset, .unset, .unset, .unset, .unset, .unset] [(.int (3 : Int32)), (.ref lp)])) rfl rfl (hb hby at_190) tq_ kq_) ?_
          show own_Go p e below T0 (mkF m 191 #[.val (.int sh0), .val (.int pm0), .val (.int nd0), .val (.ref lp), .val (.int r_), .val (.int k_), .val (.ref pr), .val (.ref bf), .val (.int (3 : Int32)), .unset, .unset, .unset, .unset, .unset, .unset] [(.int (2 : Int32))]) _
          refine own_s_istore X0.here hx #[.val (.int sh0), .val (.int pm0), .val (.int nd0), .val (.ref lp), .val (.int r_), .val (.int k_), .val (.ref pr), .val (.ref bf), .val (.int (3 : Int32)), .val (.int (2 : Int32)), .unset, .unset, .unset, .unset, .unset] (hb hby at_191) rfl ?_
          refine own_s_iload X0.here hx (hb hby at_193) rfl ?_
          show own_Go p e below T0 (mkF m 195 #[.val (.int sh0), .val (.int pm0), .val (.int nd0), .val (.ref lp), .val (.int r_), .val (.int k_), .val (.ref pr), .val (.ref bf), .val (.int (3 : Int32)), .val (.int (2 : Int32)), .unset, .unset, .unset, .unset, .unset] [(.int (2 : Int32))]) _
          refine own_s_ifYes X0.here hx 202 (hb hby at_195) (Jvm.Free.XT.i0_ge_t ((by decide))) (by decide) (by decide) ?_
          refine own_s_aloadN X0.here hx (hb hby at_202) rfl rfl ?_
          refine own_s_iload X0.here hx (hb hby at_203) rfl ?_
          refine own_by (fun tq_ kq_ => own_ldI X0 hx hZ e0 A_lp (k := 2) (v := (.int (1 : Int32))) (by decide) (by decide) rfl (g := (mkF m 205 #[.val (.int sh0), .val (.int pm0), .val (.int nd0), .val (.ref lp), .val (.int r_), .val (.int k_), .val (.ref pr), .val (.ref bf), .val (.int (3 : Int32)), .val (.int (2 : Int32)), .unset, .unset, .unset, .unset, .unset] [(.int (2 : Int32)), (.ref lp)])) rfl rfl (hb hby at_205) tq_ kq_) ?_
          show own_Go p e below T0 (mkF m 206 #[.val (.int sh0), .val (.int pm0), .val (.int nd0), .val (.ref lp), .val (.int r_), .val (.int k_), .val (.ref pr), .val (.ref bf), .val (.int (3 : Int32)), .val (.int (2 : Int32)), .unset, .unset, .unset, .unset, .unset] [(.int (1 : Int32))]) _
          refine own_s_istore X0.here hx #[.val (.int sh0), .val (.int pm0), .val (.int nd0), .val (.ref lp), .val (.int r_), .val (.int k_), .val (.ref pr), .val (.ref bf), .val (.int (3 : Int32)), .val (.int (2 : Int32)), .val (.int (1 : Int32)), .unset, .unset, .unset, .unset] (hb hby at_206) rfl ?_
          refine own_s_iload X0.here hx (hb hby at_208) rfl ?_
          show own_Go p e below T0 (mkF m 210 #[.val (.int sh0), .val (.int pm0), .val (.int nd0), .val (.ref lp), .val (.int r_), .val (.int k_), .val (.ref pr), .val (.ref bf), .val (.int (3 : Int32)), .val (.int (2 : Int32)), .val (.int (1 : Int32)), .unset, .unset, .unset, .unset] [(.int (1 : Int32))]) _
          refine own_s_ifYes X0.here hx 217 (hb hby at_210) (Jvm.Free.XT.i0_ge_t ((by decide))) (by decide) (by decide) ?_
          refine own_s_aloadN X0.here hx (hb hby at_217) rfl rfl ?_
          refine own_s_iload X0.here hx (hb hby at_218) rfl ?_
          refine own_by (fun tq_ kq_ => own_ldI X0 hx hZ e0 A_lp (k := 1) (v := (.int (-1 : Int32))) (by decide) (by decide) rfl (g := (mkF m 220 #[.val (.int sh0), .val (.int pm0), .val (.int nd0), .val (.ref lp), .val (.int r_), .val (.int k_), .val (.ref pr), .val (.ref bf), .val (.int (3 : Int32)), .val (.int (2 : Int32)), .val (.int (1 : Int32)), .unset, .unset, .unset, .unset] [(.int (1 : Int32)), (.ref lp)])) rfl rfl (hb hby at_220) tq_ kq_) ?_
          show own_Go p e below T0 (mkF m 221 #[.val (.int sh0), .val (.int pm0), .val (.int nd0), .val (.ref lp), .val (.int r_), .val (.int k_), .val (.ref pr), .val (.ref bf), .val (.int (3 : Int32)), .val (.int (2 : Int32)), .val (.int (1 : Int32)), .unset, .unset, .unset, .unset] [(.int (-1 : Int32))]) _
          refine own_s_istore X0.here hx #[.val (.int sh0), .val (.int pm0), .val (.int nd0), .val (.ref lp), .val (.int r_), .val (.int k_), .val (.ref pr), .val (.ref bf), .val (.int (3 : Int32)), .val (.int (2 : Int32)), .val (.int (1 : Int32)), .val (.int (-1 : Int32)), .unset, .unset, .unset] (hb hby at_221) rfl ?_
          refine own_s_iconst X0.here hx (1 : Int32) (hb hby at_223) rfl ?_
          refine own_s_iload X0.here hx (hb hby at_224) rfl ?_
          refine own_s_ifNo X0.here hx (hb hby at_226) (Jvm.Free.XT.i0_lt_f ((by decide))) ?_
          refine own_s_iconst X0.here hx (1 : Int32) (hb hby at_229) rfl ?_
          show own_Go p e below T0 (mkF m 230 #[.val (.int sh0), .val (.int pm0), .val (.int nd0), .val (.ref lp), .val (.int r_), .val (.int k_), .val (.ref pr), .val (.ref bf), .val (.int (3 : Int32)), .val (.int (2 : Int32)), .val (.int (1 : Int32)), .val (.int (-1 : Int32)), .unset, .unset, .unset] [(.int (1 : Int32)), (.int (1 : Int32))]) _
          refine own_s_goto X0.here hx 234 (hb hby at_230) (by decide) (by decide) ?_
          refine own_s_iadd X0.here hx (hb hby at_234) ?_
          refine own_s_iload X0.here hx (hb hby at_235) rfl ?_
          refine own_s_ifNo X0.here hx (hb hby at_237) (Jvm.Free.XT.i0_lt_f ((by decide))) ?_
          refine own_s_iconst X0.here hx (1 : Int32) (hb hby at_240) rfl ?_
          show own_Go p e below T0 (mkF m 241 #[.val (.int sh0), .val (.int pm0), .val (.int nd0), .val (.ref lp), .val (.int r_), .val (.int k_), .val (.ref pr), .val (.ref bf), .val (.int (3 : Int32)), .val (.int (2 : Int32)), .val (.int (1 : Int32)), .val (.int (-1 : Int32)), .unset, .unset, .unset] [(.int (1 : Int32)), (.int ((1 : Int32) + (1 : Int32)))]) _
          refine own_s_goto X0.here hx 245 (hb hby at_241) (by decide) (by decide) ?_
          refine own_s_iadd X0.here hx (hb hby at_245) ?_
          refine own_s_iload X0.here hx (hb hby at_246) rfl ?_
          show own_Go p e below T0 (mkF m 248 #[.val (.int sh0), .val (.int pm0), .val (.int nd0), .val (.ref lp), .val (.int r_), .val (.int k_), .val (.ref pr), .val (.ref bf), .val (.int (3 : Int32)), .val (.int (2 : Int32)), .val (.int (1 : Int32)), .val (.int (-1 : Int32)), .unset, .unset, .unset] [(.int (-1 : Int32)), (.int (((1 : Int32) + (1 : Int32)) + (1 : Int32)))]) _
          refine own_s_ifYes X0.here hx 255 (hb hby at_248) (Jvm.Free.XT.i0_lt_t ((by decide))) (by decide) (by decide) ?_
          refine own_s_iconst X0.here hx (0 : Int32) (hb hby at_255) rfl ?_
          refine own_s_iadd X0.here hx (hb hby at_256) ?_
          show own_Go p e below T0 (mkF m 257 #[.val (.int sh0), .val (.int pm0), .val (.int nd0), .val (.ref lp), .val (.int r_), .val (.int k_), .val (.ref pr), .val (.ref bf), .val (.int (3 : Int32)), .val (.int (2 : Int32)), .val (.int (1 : Int32)), .val (.int (-1 : Int32)), .unset, .unset, .unset] [(.int (3 : Int32))]) _
          refine own_s_istore X0.here hx #[.val (.int sh0), .val (.int pm0), .val (.int nd0), .val (.ref lp), .val (.int r_), .val (.int k_), .val (.ref pr), .val (.ref bf), .val (.int (3 : Int32)), .val (.int (2 : Int32)), .val (.int (1 : Int32)), .val (.int (-1 : Int32)), .val (.int (3 : Int32)), .unset, .unset] (hb hby at_257) rfl ?_
          refine own_s_aload X0.here hx (hb hby at_259) rfl rfl ?_
          refine own_s_iload X0.here hx (hb hby at_261) rfl ?_
          refine own_s_iload X0.here hx (hb hby at_263) rfl ?_
          refine own_s_iload X0.here hx (hb hby at_265) rfl ?_
          obtain ⟨_, _, ⟨T109, L109, k109, n109⟩, -, X109, ⟨Lc109, hQ109, l109, y109, z109⟩, st109⟩ := Jvm.LawKit.callS X0 hx (y := (⟨"com/example/geodesic/geodesic/graph/ShortestPathsWalkPinLaw", "s", "(III)I"⟩ : MethodName)) hown (mvT hZ (hw _ (List.mem_of_getElem? (i := 1) rfl))) (mvT hZ (hw _ (List.mem_of_getElem? (i := 2) rfl))) (mvT hZ (hw _ (List.mem_of_getElem? (i := 3) rfl))) (mvT hZ (hw _ (List.mem_of_getElem? (i := 4) rfl))) (by decide) (backOf (W := 1) (own_r1 l Z a0 hw [] (3 : Int32) r_ k_  h0 n0 Z0 ) hZ (hw _ (List.mem_of_getElem? (i := 4) rfl)) (hw _ (List.mem_of_getElem? (i := 3) rfl)) (by decide) (by decide)) (g := (mkF m 267 #[.val (.int sh0), .val (.int pm0), .val (.int nd0), .val (.ref lp), .val (.int r_), .val (.int k_), .val (.ref pr), .val (.ref bf), .val (.int (3 : Int32)), .val (.int (2 : Int32)), .val (.int (1 : Int32)), .val (.int (-1 : Int32)), .val (.int (3 : Int32)), .unset, .unset] [(.int k_), (.int r_), (.int (3 : Int32)), (.ref pr)])) rfl (by rw [hml]; rfl) (argsL := [(.int (3 : Int32)), (.int r_), (.int k_)]) (rest := [(.ref pr)]) (lenOf own_pd_0 rfl) rfl (by show 2 * 0 + _ ≤ _; exact Nat.le_of_eq rfl) (hb hby at_267) (fun _ _ => ⟨rfl, e0, (by decide : 3 + 0 ≤ _), (by decide : 12 + 0 ≤ _)⟩)
          dsimp only [Pt.U, Pt.locs, Pt.cells, Pt.slots] at X109 l109 y109 z109 st109 hQ109
          subst l109 y109 z109
          obtain ⟨rfl, N109q, e109⟩ := hQ109
          have N109 := Fr.app N0 N109q
          refine own_by st109 ?_
          show own_Go p e below T109 (mkF m 270 #[.val (.int sh0), .val (.int pm0), .val (.int nd0), .val (.ref lp), .val (.int r_), .val (.int k_), .val (.ref pr), .val (.ref bf), .val (.int (3 : Int32)), .val (.int (2 : Int32)), .val (.int (1 : Int32)), .val (.int (-1 : Int32)), .val (.int (3 : Int32)), .unset, .unset] [(.int (own_f1 (3 : Int32) r_ k_)), (.ref pr)]) _
          obtain ⟨_, _, ⟨T110, L110, k110, n110⟩, -, X110, ⟨Lc110, hQ110, l110, y110, z110⟩, st110⟩ := Jvm.LawKit.callS X109 hx (y := (⟨"com/example/geodesic/geodesic/graph/ShortestPaths", "walk", "([II)[I"⟩ : MethodName)) hown (mvT hZ (hw _ (List.mem_of_getElem? (i := 8) rfl))) (mvT hZ (hw _ (List.mem_of_getElem? (i := 9) rfl))) (mvT hZ (hw _ (List.mem_of_getElem? (i := 10) rfl))) (mvT hZ (hw _ (List.mem_of_getElem? (i := 11) rfl))) (by decide) (backOf (W := 0) (own_wk3 l Z a0 hw [] pr (own_f1 (3 : Int32) r_ k_) (own_f1 (2 : Int32) r_ k_) (own_f1 (1 : Int32) r_ k_) ((own_f1 (3 : Int32) r_ k_).toNatClampNeg) ((own_f1 (2 : Int32) r_ k_).toNatClampNeg) ((own_f1 (1 : Int32) r_ k_).toNatClampNeg) (fun i => .int ((own_pf ((own_f1 (0 : Int32) r_ k_).toNatClampNeg) ((own_f1 (1 : Int32) r_ k_).toNatClampNeg) ((own_f1 (2 : Int32) r_ k_).toNatClampNeg) ((own_f1 (3 : Int32) r_ k_).toNatClampNeg) (own_f2 (-1 : Int32) r_ k_) (own_f2 (-1 : Int32) r_ k_) (own_f2 (1 : Int32) r_ k_) (own_f2 (2 : Int32) r_ k_)) i)) h0 n0 Z0 ⟨f3.1, rfl⟩ f3.2.1 (congrArg Value.int ((hpf.2.2.2).trans (own_img _ _ _ (by decide)))) ⟨f2.1, rfl⟩ f2.2.1 (congrArg Value.int ((hpf.2.2.1).trans (own_img _ _ _ (by decide)))) f2.2.2 ⟨f1.1, rfl⟩ f1.2.1 (congrArg Value.int ((hpf.2.1).trans (own_img0 _ _ _ (by decide)))) f1.2.2 A_pr) hZ (hw _ (List.mem_of_getElem? (i := 11) rfl)) (hw _ (List.mem_of_getElem? (i := 10) rfl)) (by decide) (by decide)) (g := (mkF m 270 #[.val (.int sh0), .val (.int pm0), .val (.int nd0), .val (.ref lp), .val (.int r_), .val (.int k_), .val (.ref pr), .val (.ref bf), .val (.int (3 : Int32)), .val (.int (2 : Int32)), .val (.int (1 : Int32)), .val (.int (-1 : Int32)), .val (.int (3 : Int32)), .unset, .unset] [(.int (own_f1 (3 : Int32) r_ k_)), (.ref pr)])) rfl (by rw [hml]; rfl) (argsL := [(.ref pr), (.int (own_f1 (3 : Int32) r_ k_))]) (rest := []) (lenOf own_pd_1 rfl) rfl (by show 2 * 0 + _ ≤ _; exact Nat.le_of_eq rfl) (hb hby at_270) (fun _ _ => ⟨rfl, e109, (by decide : 3 + 1 ≤ _), (by decide : 12 + 3 ≤ _)⟩)
          dsimp only [Pt.U, Pt.locs, Pt.cells, Pt.slots] at X110 l110 y110 z110 st110 hQ110
          subst l110 y110 z110
          obtain ⟨bb110, rfl, N110q, gb110, K110, fa110⟩ := hQ110
          have N110 := Fr.app N109 N110q
          have f111 := A_lp.keep K110 nin0
          have f112 := A_pr.keep K110 nin0
          have f113 := A_bf.keep K110 nin0
          have SZ110 : n0 ≤ T110.heap.size := Nat.le_trans Z0 K110.1
          refine own_by st110 ?_
          show own_Go p e below T110 (mkF m 273 #[.val (.int sh0), .val (.int pm0), .val (.int nd0), .val (.ref lp), .val (.int r_), .val (.int k_), .val (.ref pr), .val (.ref bf), .val (.int (3 : Int32)), .val (.int (2 : Int32)), .val (.int (1 : Int32)), .val (.int (-1 : Int32)), .val (.int (3 : Int32)), .unset, .unset] [(.ref bb110)]) _
          exact own_t3 hx hZ hw hby hml hown hnm hret hlk  sh0 pm0 nd0 r_ k_ (3 : Int32) (2 : Int32) (1 : Int32) (-1 : Int32) (own_f2 (-1 : Int32) r_ k_) (own_f2 (-1 : Int32) r_ k_) (own_f2 (1 : Int32) r_ k_) (own_f2 (2 : Int32) r_ k_) lp pr bf bb110 ((own_f1 (0 : Int32) r_ k_).toNatClampNeg) ((own_f1 (1 : Int32) r_ k_).toNatClampNeg) ((own_f1 (2 : Int32) r_ k_).toNatClampNeg) ((own_f1 (3 : Int32) r_ k_).toNatClampNeg) X110 rfl N110 SZ110 f112 f113 fa110
        ·
          show own_Go p e below T0 (mkF m 187 #[.val (.int sh0), .val (.int pm0), .val (.int nd0), .val (.ref lp), .val (.int r_), .val (.int k_), .val (.ref pr), .val (.ref bf), .val (.int (3 : Int32)), .unset, .unset, .unset, .unset, .unset, .unset] []) _
          refine own_s_aloadN X0.here hx (hb hby at_187) rfl rfl ?_
          refine own_s_iload X0.here hx (hb hby at_188) rfl ?_
          refine own_by (fun tq_ kq_ => own_ldI X0 hx hZ e0 A_lp (k := 3) (v := (.int (2 : Int32))) (by decide) (by decide) rfl (g := (mkF m 190 #[.val (.int sh0), .val (.int pm0), .val (.int nd0), .val (.ref lp), .val (.int r_), .val (.int k_), .val (.ref pr), .val (.ref bf), .val (.int (3 : Int32)), .unset, .unset, .unset, .unset, .unset, .unset] [(.int (3 : Int32)), (.ref lp)])) rfl rfl (hb hby at_190) tq_ kq_) ?_
          show own_Go p e below T0 (mkF m 191 #[.val (.int sh0), .val (.int pm0), .val (.int nd0), .val (.ref lp), .val (.int r_), .val (.int k_), .val (.ref pr), .val (.ref bf), .val (.int (3 : Int32)), .unset, .unset, .unset, .unset, .unset, .unset] [(.int (2 : Int32))]) _
          refine own_s_istore X0.here hx #[.val (.int sh0), .val (.int pm0), .val (.int nd0), .val (.ref lp), .val (.int r_), .val (.int k_), .val (.ref pr), .val (.ref bf), .val (.int (3 : Int32)), .val (.int (2 : Int32)), .unset, .unset, .unset, .unset, .unset] (hb hby at_191) rfl ?_
          refine own_s_iload X0.here hx (hb hby at_193) rfl ?_
          show own_Go p e below T0 (mkF m 195 #[.val (.int sh0), .val (.int pm0), .val (.int nd0), .val (.ref lp), .val (.int r_), .val (.int k_), .val (.ref pr), .val (.ref bf), .val (.int (3 : Int32)), .val (.int (2 : Int32)), .unset, .unset, .unset, .unset, .unset] [(.int (2 : Int32))]) _
          refine own_s_ifYes X0.here hx 202 (hb hby at_195) (Jvm.Free.XT.i0_ge_t ((by decide))) (by decide) (by decide) ?_
          refine own_s_aloadN X0.here hx (hb hby at_202) rfl rfl ?_
          refine own_s_iload X0.here hx (hb hby at_203) rfl ?_
          refine own_by (fun tq_ kq_ => own_ldI X0 hx hZ e0 A_lp (k := 2) (v := (.int (1 : Int32))) (by decide) (by decide) rfl (g := (mkF m 205 #[.val (.int sh0), .val (.int pm0), .val (.int nd0), .val (.ref lp), .val (.int r_), .val (.int k_), .val (.ref pr), .val (.ref bf), .val (.int (3 : Int32)), .val (.int (2 : Int32)), .unset, .unset, .unset, .unset, .unset] [(.int (2 : Int32)), (.ref lp)])) rfl rfl (hb hby at_205) tq_ kq_) ?_
          show own_Go p e below T0 (mkF m 206 #[.val (.int sh0), .val (.int pm0), .val (.int nd0), .val (.ref lp), .val (.int r_), .val (.int k_), .val (.ref pr), .val (.ref bf), .val (.int (3 : Int32)), .val (.int (2 : Int32)), .unset, .unset, .unset, .unset, .unset] [(.int (1 : Int32))]) _
          refine own_s_istore X0.here hx #[.val (.int sh0), .val (.int pm0), .val (.int nd0), .val (.ref lp), .val (.int r_), .val (.int k_), .val (.ref pr), .val (.ref bf), .val (.int (3 : Int32)), .val (.int (2 : Int32)), .val (.int (1 : Int32)), .unset, .unset, .unset, .unset] (hb hby at_206) rfl ?_
          refine own_s_iload X0.here hx (hb hby at_208) rfl ?_
          show own_Go p e below T0 (mkF m 210 #[.val (.int sh0), .val (.int pm0), .val (.int nd0), .val (.ref lp), .val (.int r_), .val (.int k_), .val (.ref pr), .val (.ref bf), .val (.int (3 : Int32)), .val (.int (2 : Int32)), .val (.int (1 : Int32)), .unset, .unset, .unset, .unset] [(.int (1 : Int32))]) _
          refine own_s_ifYes X0.here hx 217 (hb hby at_210) (Jvm.Free.XT.i0_ge_t ((by decide))) (by decide) (by decide) ?_
          refine own_s_aloadN X0.here hx (hb hby at_217) rfl rfl ?_
          refine own_s_iload X0.here hx (hb hby at_218) rfl ?_
          refine own_by (fun tq_ kq_ => own_ldI X0 hx hZ e0 A_lp (k := 1) (v := (.int (0 : Int32))) (by decide) (by decide) rfl (g := (mkF m 220 #[.val (.int sh0), .val (.int pm0), .val (.int nd0), .val (.ref lp), .val (.int r_), .val (.int k_), .val (.ref pr), .val (.ref bf), .val (.int (3 : Int32)), .val (.int (2 : Int32)), .val (.int (1 : Int32)), .unset, .unset, .unset, .unset] [(.int (1 : Int32)), (.ref lp)])) rfl rfl (hb hby at_220) tq_ kq_) ?_
          show own_Go p e below T0 (mkF m 221 #[.val (.int sh0), .val (.int pm0), .val (.int nd0), .val (.ref lp), .val (.int r_), .val (.int k_), .val (.ref pr), .val (.ref bf), .val (.int (3 : Int32)), .val (.int (2 : Int32)), .val (.int (1 : Int32)), .unset, .unset, .unset, .unset] [(.int (0 : Int32))]) _
          refine own_s_istore X0.here hx #[.val (.int sh0), .val (.int pm0), .val (.int nd0), .val (.ref lp), .val (.int r_), .val (.int k_), .val (.ref pr), .val (.ref bf), .val (.int (3 : Int32)), .val (.int (2 : Int32)), .val (.int (1 : Int32)), .val (.int (0 : Int32)), .unset, .unset, .unset] (hb hby at_221) rfl ?_
          refine own_s_iconst X0.here hx (1 : Int32) (hb hby at_223) rfl ?_
          refine own_s_iload X0.here hx (hb hby at_224) rfl ?_
          refine own_s_ifNo X0.here hx (hb hby at_226) (Jvm.Free.XT.i0_lt_f ((by decide))) ?_
          refine own_s_iconst X0.here hx (1 : Int32) (hb hby at_229) rfl ?_
          show own_Go p e below T0 (mkF m 230 #[.val (.int sh0), .val (.int pm0), .val (.int nd0), .val (.ref lp), .val (.int r_), .val (.int k_), .val (.ref pr), .val (.ref bf), .val (.int (3 : Int32)), .val (.int (2 : Int32)), .val (.int (1 : Int32)), .val (.int (0 : Int32)), .unset, .unset, .unset] [(.int (1 : Int32)), (.int (1 : Int32))]) _
          refine own_s_goto X0.here hx 234 (hb hby at_230) (by decide) (by decide) ?_
          refine own_s_iadd X0.here hx (hb hby at_234) ?_
          refine own_s_iload X0.here hx (hb hby at_235) rfl ?_
          refine own_s_ifNo X0.here hx (hb hby at_237) (Jvm.Free.XT.i0_lt_f ((by decide))) ?_
          refine own_s_iconst X0.here hx (1 : Int32) (hb hby at_240) rfl ?_
          show own_Go p e below T0 (mkF m 241 #[.val (.int sh0), .val (.int pm0), .val (.int nd0), .val (.ref lp), .val (.int r_), .val (.int k_), .val (.ref pr), .val (.ref bf), .val (.int (3 : Int32)), .val (.int (2 : Int32)), .val (.int (1 : Int32)), .val (.int (0 : Int32)), .unset, .unset, .unset] [(.int (1 : Int32)), (.int ((1 : Int32) + (1 : Int32)))]) _
          refine own_s_goto X0.here hx 245 (hb hby at_241) (by decide) (by decide) ?_
          refine own_s_iadd X0.here hx (hb hby at_245) ?_
          refine own_s_iload X0.here hx (hb hby at_246) rfl ?_
          refine own_s_ifNo X0.here hx (hb hby at_248) (Jvm.Free.XT.i0_lt_f ((by decide))) ?_
          refine own_s_iconst X0.here hx (1 : Int32) (hb hby at_251) rfl ?_
          show own_Go p e below T0 (mkF m 252 #[.val (.int sh0), .val (.int pm0), .val (.int nd0), .val (.ref lp), .val (.int r_), .val (.int k_), .val (.ref pr), .val (.ref bf), .val (.int (3 : Int32)), .val (.int (2 : Int32)), .val (.int (1 : Int32)), .val (.int (0 : Int32)), .unset, .unset, .unset] [(.int (1 : Int32)), (.int (((1 : Int32) + (1 : Int32)) + (1 : Int32)))]) _
          refine own_s_goto X0.here hx 256 (hb hby at_252) (by decide) (by decide) ?_
          refine own_s_iadd X0.here hx (hb hby at_256) ?_
          show own_Go p e below T0 (mkF m 257 #[.val (.int sh0), .val (.int pm0), .val (.int nd0), .val (.ref lp), .val (.int r_), .val (.int k_), .val (.ref pr), .val (.ref bf), .val (.int (3 : Int32)), .val (.int (2 : Int32)), .val (.int (1 : Int32)), .val (.int (0 : Int32)), .unset, .unset, .unset] [(.int (4 : Int32))]) _
          refine own_s_istore X0.here hx #[.val (.int sh0), .val (.int pm0), .val (.int nd0), .val (.ref lp), .val (.int r_), .val (.int k_), .val (.ref pr), .val (.ref bf), .val (.int (3 : Int32)), .val (.int (2 : Int32)), .val (.int (1 : Int32)), .val (.int (0 : Int32)), .val (.int (4 : Int32)), .unset, .unset] (hb hby at_257) rfl ?_
          refine own_s_aload X0.here hx (hb hby at_259) rfl rfl ?_
          refine own_s_iload X0.here hx (hb hby at_261) rfl ?_
          refine own_s_iload X0.here hx (hb hby at_263) rfl ?_
          refine own_s_iload X0.here hx (hb hby at_265) rfl ?_
          obtain ⟨_, _, ⟨T114, L114, k114, n114⟩, -, X114, ⟨Lc114, hQ114, l114, y114, z114⟩, st114⟩ := Jvm.LawKit.callS X0 hx (y := (⟨"com/example/geodesic/geodesic/graph/ShortestPathsWalkPinLaw", "s", "(III)I"⟩ : MethodName)) hown (mvT hZ (hw _ (List.mem_of_getElem? (i := 1) rfl))) (mvT hZ (hw _ (List.mem_of_getElem? (i := 2) rfl))) (mvT hZ (hw _ (List.mem_of_getElem? (i := 3) rfl))) (mvT hZ (hw _ (List.mem_of_getElem? (i := 4) rfl))) (by decide) (backOf (W := 1) (own_r1 l Z a0 hw [] (3 : Int32) r_ k_  h0 n0 Z0 ) hZ (hw _ (List.mem_of_getElem? (i := 4) rfl)) (hw _ (List.mem_of_getElem? (i := 3) rfl)) (by decide) (by decide)) (g := (mkF m 267 #[.val (.int sh0), .val (.int pm0), .val (.int nd0), .val (.ref lp), .val (.int r_), .val (.int k_), .val (.ref pr), .val (.ref bf), .val (.int (3 : Int32)), .val (.int (2 : Int32)), .val (.int (1 : Int32)), .val (.int (0 : Int32)), .val (.int (4 : Int32)), .unset, .unset] [(.int k_), (.int r_), (.int (3 : Int32)), (.ref pr)])) rfl (by rw [hml]; rfl) (argsL := [(.int (3 : Int32)), (.int r_), (.int k_)]) (rest := [(.ref pr)]) (lenOf own_pd_0 rfl) rfl (by show 2 * 0 + _ ≤ _; exact Nat.le_of_eq rfl) (hb hby at_267) (fun _ _ => ⟨rfl, e0, (by decide : 3 + 0 ≤ _), (by decide : 12 + 0 ≤ _)⟩)
          dsimp only [Pt.U, Pt.locs, Pt.cells, Pt.slots] at X114 l114 y114 z114 st114 hQ114
          subst l114 y114 z114
          obtain ⟨rfl, N114q, e114⟩ := hQ114
          have N114 := Fr.app N0 N114q
          refine own_by st114 ?_
          show own_Go p e below T114 (mkF m 270 #[.val (.int sh0), .val (.int pm0), .val (.int nd0), .val (.ref lp), .val (.int r_), .val (.int k_), .val (.ref pr), .val (.ref bf), .val (.int (3 : Int32)), .val (.int (2 : Int32)), .val (.int (1 : Int32)), .val (.int (0 : Int32)), .val (.int (4 : Int32)), .unset, .unset] [(.int (own_f1 (3 : Int32) r_ k_)), (.ref pr)]) _
          obtain ⟨_, _, ⟨T115, L115, k115, n115⟩, -, X115, ⟨Lc115, hQ115, l115, y115, z115⟩, st115⟩ := Jvm.LawKit.callS X114 hx (y := (⟨"com/example/geodesic/geodesic/graph/ShortestPaths", "walk", "([II)[I"⟩ : MethodName)) hown (mvT hZ (hw _ (List.mem_of_getElem? (i := 8) rfl))) (mvT hZ (hw _ (List.mem_of_getElem? (i := 9) rfl))) (mvT hZ (hw _ (List.mem_of_getElem? (i := 10) rfl))) (mvT hZ (hw _ (List.mem_of_getElem? (i := 11) rfl))) (by decide) (backOf (W := 0) (own_wk4 l Z a0 hw [] pr (own_f1 (3 : Int32) r_ k_) (own_f1 (2 : Int32) r_ k_) (own_f1 (1 : Int32) r_ k_) (own_f1 (0 : Int32) r_ k_) ((own_f1 (3 : Int32) r_ k_).toNatClampNeg) ((own_f1 (2 : Int32) r_ k_).toNatClampNeg) ((own_f1 (1 : Int32) r_ k_).toNatClampNeg) ((own_f1 (0 : Int32) r_ k_).toNatClampNeg) (fun i => .int ((own_pf ((own_f1 (0 : Int32) r_ k_).toNatClampNeg) ((own_f1 (1 : Int32) r_ k_).toNatClampNeg) ((own_f1 (2 : Int32) r_ k_).toNatClampNeg) ((own_f1 (3 : Int32) r_ k_).toNatClampNeg) (own_f2 (-1 : Int32) r_ k_) (own_f2 (0 : Int32) r_ k_) (own_f2 (1 : Int32) r_ k_) (own_f2 (2 : Int32) r_ k_)) i)) h0 n0 Z0 ⟨f3.1, rfl⟩ f3.2.1 (congrArg Value.int ((hpf.2.2.2).trans (own_img _ _ _ (by decide)))) ⟨f2.1, rfl⟩ f2.2.1 (congrArg Value.int ((hpf.2.2.1).trans (own_img _ _ _ (by decide)))) f2.2.2 ⟨f1.1, rfl⟩ f1.2.1 (congrArg Value.int ((hpf.2.1).trans (own_img _ _ _ (by decide)))) f1.2.2 ⟨f0.1, rfl⟩ f0.2.1 (congrArg Value.int ((hpf.1).trans (own_img0 _ _ _ (by decide)))) f0.2.2 A_pr) hZ (hw _ (List.mem_of_getElem? (i := 11) rfl)) (hw _ (List.mem_of_getElem? (i := 10) rfl)) (by decide) (by decide)) (g := (mkF m 270 #[.val (.int sh0), .val (.int pm0), .val (.int nd0), .val (.ref lp), .val (.int r_), .val (.int k_), .val (.ref pr), .val (.ref bf), .val (.int (3 : Int32)), .val (.int (2 : Int32)), .val (.int (1 : Int32)), .val (.int (0 : Int32)), .val (.int (4 : Int32)), .unset, .unset] [(.int (own_f1 (3 : Int32) r_ k_)), (.ref pr)])) rfl (by rw [hml]; rfl) (argsL := [(.ref pr), (.int (own_f1 (3 : Int32) r_ k_))]) (rest := []) (lenOf own_pd_1 rfl) rfl (by show 2 * 0 + _ ≤ _; exact Nat.le_of_eq rfl) (hb hby at_270) (fun _ _ => ⟨rfl, e114, (by decide : 3 + 1 ≤ _), (by decide : 12 + 4 ≤ _)⟩)
          dsimp only [Pt.U, Pt.locs, Pt.cells, Pt.slots] at X115 l115 y115 z115 st115 hQ115
          subst l115 y115 z115
          obtain ⟨bb115, rfl, N115q, gb115, K115, fa115⟩ := hQ115
          have N115 := Fr.app N114 N115q
          have f116 := A_lp.keep K115 nin0
          have f117 := A_pr.keep K115 nin0
          have f118 := A_bf.keep K115 nin0
          have SZ115 : n0 ≤ T115.heap.size := Nat.le_trans Z0 K115.1
          refine own_by st115 ?_
          show own_Go p e below T115 (mkF m 273 #[.val (.int sh0), .val (.int pm0), .val (.int nd0), .val (.ref lp), .val (.int r_), .val (.int k_), .val (.ref pr), .val (.ref bf), .val (.int (3 : Int32)), .val (.int (2 : Int32)), .val (.int (1 : Int32)), .val (.int (0 : Int32)), .val (.int (4 : Int32)), .unset, .unset] [(.ref bb115)]) _
          exact own_t4 hx hZ hw hby hml hown hnm hret hlk  sh0 pm0 nd0 r_ k_ (3 : Int32) (2 : Int32) (1 : Int32) (0 : Int32) (own_f2 (-1 : Int32) r_ k_) (own_f2 (0 : Int32) r_ k_) (own_f2 (1 : Int32) r_ k_) (own_f2 (2 : Int32) r_ k_) lp pr bf bb115 ((own_f1 (0 : Int32) r_ k_).toNatClampNeg) ((own_f1 (1 : Int32) r_ k_).toNatClampNeg) ((own_f1 (2 : Int32) r_ k_).toNatClampNeg) ((own_f1 (3 : Int32) r_ k_).toNatClampNeg) X115 rfl N115 SZ115 f117 f118 fa115
set_option maxRecDepth 65536 in
set_option maxHeartbeats 40000000 in
theorem own_p21 {p : Program} {l : Launch} {e : Env} {s : State} {m : MethodId} {args : Array Value} {below : List Frame} {meth : Method} {c : Code} {Z : State} {a0 : Array Value} {n0 : Nat} (hx : p.tables.exec = Jvm.exec) (hZ : Z.Warmed39 s.vm) (hw : ∀ d ∈ tables_1, d.before a0 Z = true) (hby : c.code = code) (hml : c.maxLocals = 15) (hown : s.vm.findClass "com/example/geodesic/geodesic/graph/ShortestPathsWalkPinLaw" = some m.cls) (hnm : meth.name = "law") (hret : meth.sig.returnType = (some .boolean)) (hlk : meth.locks = false) (sh0 pm0 nd0 l1 : Int32) (lp : Addr) {T0 : State} {locs : List Loc} {h0 : Heap} (X0 : Stand p l e room_1 s m args below meth c T0 locs 1 4) (e0 : T0.heap = h0) (N0 : Fr n0 locs) (Z0 : n0 ≤ h0.size) (hL1 : l1 = -1 ∨ l1 = 0) (A_lp : own_Av Z h0 lp .int 4 (own_upd (fun _ => (.int (0 : Int32))) 0 (.int (-1 : Int32)))) (ge_lp : n0 ≤ lp) :
    own_Go p e below T0 (mkF m 21 #[.val (.int sh0), .val (.int pm0), .val (.int nd0), .val (.ref lp), .unset, .unset, .unset, .unset, .unset, .unset, .unset, .unset, .unset, .unset, .unset] [(.int l1), (.int (1 : Int32)), (.ref lp)]) (own_Fin s (fun (v : Option Value) (h : Heap) (L : List Loc) => v = some (.int 1) ∧ Fr n0 L) 16 128) := by
  show own_Go p e below T0 (mkF m 21 #[.val (.int sh0), .val (.int pm0), .val (.int nd0), .val (.ref lp), .unset, .unset, .unset, .unset, .unset, .unset, .unset, .unset, .unset, .unset, .unset] [(.int l1), (.int (1 : Int32)), (.ref lp)]) _
  obtain ⟨T119, h119, X119, e119, W119, fa119, st119⟩ := own_stI X0 hx hZ e0 A_lp (k := 1) (by decide) (by decide) (g := (mkF m 21 #[.val (.int sh0), .val (.int pm0), .val (.int nd0), .val (.ref lp), .unset, .unset, .unset, .unset, .unset, .unset, .unset, .unset, .unset, .unset, .unset] [(.int l1), (.int (1 : Int32)), (.ref lp)])) rfl rfl (hb hby at_21)
  have N119 := Fr.snoc X119 N0 ge_lp
  have SZ119 : n0 ≤ h119.size := by rw [W119.size]; exact Z0
  refine own_by st119 ?_
  show own_Go p e below T119 (mkF m 22 #[.val (.int sh0), .val (.int pm0), .val (.int nd0), .val (.ref lp), .unset, .unset, .unset, .unset, .unset, .unset, .unset, .unset, .unset, .unset, .unset] []) _
  refine own_s_aloadN X119.here hx (hb hby at_22) rfl rfl ?_
  refine own_s_iconst X119.here hx (2 : Int32) (hb hby at_23) rfl ?_
  refine own_s_iloadN X119.here hx (hb hby at_24) rfl ?_
  refine own_s_iconst X119.here hx (1 : Int32) (hb hby at_25) rfl ?_
  refine own_s_iushr X119.here hx (hb hby at_26) ?_
  refine own_s_iconst X119.here hx (3 : Int32) (hb hby at_27) rfl ?_
  refine own_s_iand X119.here hx (hb hby at_28) ?_
  refine own_s_iconst X119.here hx (3 : Int32) (hb hby at_29) rfl ?_
  refine own_by (fun tq_ kq_ => iremM X119 hx rfl (hb hby at_30) rfl (by decide) kq_) ?_
  show own_Go p e below T119 (mkF m 31 #[.val (.int sh0), .val (.int pm0), .val (.int nd0), .val (.ref lp), .unset, .unset, .unset, .unset, .unset, .unset, .unset, .unset, .unset, .unset, .unset] [(.int ((((sh0.toUInt32 >>> ((1 : Int32) &&& 31).toUInt32).toInt32) &&& (3 : Int32)) % (3 : Int32))), (.int (2 : Int32)), (.ref lp)]) _
  refine own_s_iconst X119.here hx (1 : Int32) (hb hby at_31) rfl ?_
  refine own_s_isub X119.here hx (hb hby at_32) ?_
  have hL2 := own_L2 ((sh0.toUInt32 >>> ((1 : Int32) &&& 31).toUInt32).toInt32)
  generalize (((((sh0.toUInt32 >>> ((1 : Int32) &&& 31).toUInt32).toInt32) &&& (3 : Int32)) % (3 : Int32)) - (1 : Int32)) = l2 at hL2 ⊢
  show own_Go p e below T119 (mkF m 33 #[.val (.int sh0), .val (.int pm0), .val (.int nd0), .val (.ref lp), .unset, .unset, .unset, .unset, .unset, .unset, .unset, .unset, .unset, .unset, .unset] [(.int l2), (.int (2 : Int32)), (.ref lp)]) _
  obtain ⟨T120, h120, X120, e120, W120, fa120, st120⟩ := own_stI X119 hx hZ e119 fa119 (k := 2) (by decide) (by decide) (g := (mkF m 33 #[.val (.int sh0), .val (.int pm0), .val (.int nd0), .val (.ref lp), .unset, .unset, .unset, .unset, .unset, .unset, .unset, .unset, .unset, .unset, .unset] [(.int l2), (.int (2 : Int32)), (.ref lp)])) rfl rfl (hb hby at_33)
  have N120 := Fr.snoc X120 N119 ge_lp
  have SZ120 : n0 ≤ h120.size := by rw [W120.size]; exact SZ119
  refine own_by st120 ?_
  show own_Go p e below T120 (mkF m 34 #[.val (.int sh0), .val (.int pm0), .val (.int nd0), .val (.ref lp), .unset, .unset, .unset, .unset, .unset, .unset, .unset, .unset, .unset, .unset, .unset] []) _
  refine own_s_aloadN X120.here hx (hb hby at_34) rfl rfl ?_
  refine own_s_iconst X120.here hx (3 : Int32) (hb hby at_35) rfl ?_
  refine own_s_iloadN X120.here hx (hb hby at_36) rfl ?_
  refine own_s_iconst X120.here hx (3 : Int32) (hb hby at_37) rfl ?_
  refine own_s_iushr X120.here hx (hb hby at_38) ?_
  refine own_s_iconst X120.here hx (3 : Int32) (hb hby at_39) rfl ?_
  refine own_s_iand X120.here hx (hb hby at_40) ?_
  refine own_s_iconst X120.here hx (1 : Int32) (hb hby at_41) rfl ?_
  refine own_s_isub X120.here hx (hb hby at_42) ?_
  have hL3 := own_L3 ((sh0.toUInt32 >>> ((3 : Int32) &&& 31).toUInt32).toInt32)
  generalize ((((sh0.toUInt32 >>> ((3 : Int32) &&& 31).toUInt32).toInt32) &&& (3 : Int32)) - (1 : Int32)) = l3 at hL3 ⊢
  show own_Go p e below T120 (mkF m 43 #[.val (.int sh0), .val (.int pm0), .val (.int nd0), .val (.ref lp), .unset, .unset, .unset, .unset, .unset, .unset, .unset, .unset, .unset, .unset, .unset] [(.int l3), (.int (3 : Int32)), (.ref lp)]) _
  obtain ⟨T121, h121, X121, e121, W121, fa121, st121⟩ := own_stI X120 hx hZ e120 fa120 (k := 3) (by decide) (by decide) (g := (mkF m 43 #[.val (.int sh0), .val (.int pm0), .val (.int nd0), .val (.ref lp), .unset, .unset, .unset, .unset, .unset, .unset, .unset, .unset, .unset, .unset, .unset] [(.int l3), (.int (3 : Int32)), (.ref lp)])) rfl rfl (hb hby at_43)
  have N121 := Fr.snoc X121 N120 ge_lp
  have SZ121 : n0 ≤ h121.size := by rw [W121.size]; exact SZ120
  refine own_by st121 ?_
  show own_Go p e below T121 (mkF m 44 #[.val (.int sh0), .val (.int pm0), .val (.int nd0), .val (.ref lp), .unset, .unset, .unset, .unset, .unset, .unset, .unset, .unset, .unset, .unset, .unset] []) _
  refine own_s_iloadN X121.here hx (hb hby at_44) rfl ?_
  refine own_s_iconst X121.here hx (3 : Int32) (hb hby at_45) rfl ?_
  refine own_s_iand X121.here hx (hb hby at_46) ?_
  refine own_s_istore X121.here hx #[.val (.int sh0), .val (.int pm0), .val (.int nd0), .val (.ref lp), .val (.int (pm0 &&& (3 : Int32))), .unset, .unset, .unset, .unset, .unset, .unset, .unset, .unset, .unset, .unset] (hb hby at_47) rfl ?_
  have hr := own_m3 pm0
  generalize (pm0 &&& (3 : Int32)) = r_ at hr ⊢
  show own_Go p e below T121 (mkF m 49 #[.val (.int sh0), .val (.int pm0), .val (.int nd0), .val (.ref lp), .val (.int r_), .unset, .unset, .unset, .unset, .unset, .unset, .unset, .unset, .unset, .unset] []) _
  refine own_s_iloadN X121.here hx (hb hby at_49) rfl ?_
  refine own_s_iconst X121.here hx (2 : Int32) (hb hby at_50) rfl ?_
  refine own_s_iushr X121.here hx (hb hby at_51) ?_
  refine own_s_iconst X121.here hx (3 : Int32) (hb hby at_52) rfl ?_
  refine own_s_iand X121.here hx (hb hby at_53) ?_
  refine own_s_istore X121.here hx #[.val (.int sh0), .val (.int pm0), .val (.int nd0), .val (.ref lp), .val (.int r_), .val (.int (((pm0.toUInt32 >>> ((2 : Int32) &&& 31).toUInt32).toInt32) &&& (3 : Int32))), .unset, .unset, .unset, .unset, .unset, .unset, .unset, .unset, .unset] (hb hby at_54) rfl ?_
  have hk := own_m3 ((pm0.toUInt32 >>> ((2 : Int32) &&& 31).toUInt32).toInt32)
  generalize (((pm0.toUInt32 >>> ((2 : Int32) &&& 31).toUInt32).toInt32) &&& (3 : Int32)) = k_ at hk ⊢
  show own_Go p e below T121 (mkF m 56 #[.val (.int sh0), .val (.int pm0), .val (.int nd0), .val (.ref lp), .val (.int r_), .val (.int k_), .unset, .unset, .unset, .unset, .unset, .unset, .unset, .unset, .unset] []) _
  obtain ⟨f0, f1, f2, f3, n01, n02, n03, n12, n13, n23⟩ := own_Sr r_ k_ hr hk
  refine own_s_iconst X121.here hx (4 : Int32) (hb hby at_56) rfl ?_
  obtain ⟨T122, h122, k122, X122, e122, E122, A122, st122⟩ := newP X121 hx hZ (hw _ (List.mem_of_getElem? (i := 0) rfl)) e121 (g := (mkF m 57 #[.val (.int sh0), .val (.int pm0), .val (.int nd0), .val (.ref lp), .val (.int r_), .val (.int k_), .unset, .unset, .unset, .unset, .unset, .unset, .unset, .unset, .unset] [(.int (4 : Int32))])) rfl (hb hby at_57) rfl (by decide) (cap := 4) (by decide) (by decide) (by decide) (by decide)
  obtain ⟨b122, g122⟩ : ∃ z, z = h121.size := ⟨_, rfl⟩
  rw [← g122] at A122 st122
  have ge_b122 : n0 ≤ b122 := Nat.le_trans SZ121 (Nat.le_of_eq g122.symm)
  have ne_lp_b122 : lp ≠ b122 := Nat.ne_of_lt (Nat.lt_of_lt_of_le fa121.lt (Nat.le_of_eq g122.symm))
  have f123 := fa121.ext E122
  have SZ122 : n0 ≤ h122.size := Nat.le_trans SZ121 E122.1
  have f124 : own_Av Z h122 b122 .int 4 (fun _ => (.int (0 : Int32))) := own_Av.ofnew A122 (by decide) rfl
  refine own_by st122 ?_
  show own_Go p e below T122 (mkF m 59 #[.val (.int sh0), .val (.int pm0), .val (.int nd0), .val (.ref lp), .val (.int r_), .val (.int k_), .unset, .unset, .unset, .unset, .unset, .unset, .unset, .unset, .unset] [(.ref b122)]) _
  refine own_s_astore X122.here hx #[.val (.int sh0), .val (.int pm0), .val (.int nd0), .val (.ref lp), .val (.int r_), .val (.int k_), .val (.ref b122), .unset, .unset, .unset, .unset, .unset, .unset, .unset, .unset] (hb hby at_59) rfl rfl ?_
  refine own_s_iconst X122.here hx (4 : Int32) (hb hby at_61) rfl ?_
  obtain ⟨T125, h125, k125, X125, e125, E125, A125, st125⟩ := newP X122 hx hZ (hw _ (List.mem_of_getElem? (i := 0) rfl)) e122 (g := (mkF m 62 #[.val (.int sh0), .val (.int pm0), .val (.int nd0), .val (.ref lp), .val (.int r_), .val (.int k_), .val (.ref b122), .unset, .unset, .unset, .unset, .unset, .unset, .unset, .unset] [(.int (4 : Int32))])) rfl (hb hby at_62) rfl (by decide) (cap := 4) (by decide) (by decide) (by decide) (by decide)
  obtain ⟨b125, g125⟩ : ∃ z, z = h122.size := ⟨_, rfl⟩
  rw [← g125] at A125 st125
  have ge_b125 : n0 ≤ b125 := Nat.le_trans SZ122 (Nat.le_of_eq g125.symm)
  have ne_lp_b125 : lp ≠ b125 := Nat.ne_of_lt (Nat.lt_of_lt_of_le f123.lt (Nat.le_of_eq g125.symm))
  have ne_b122_b125 : b122 ≠ b125 := Nat.ne_of_lt (Nat.lt_of_lt_of_le f124.lt (Nat.le_of_eq g125.symm))
  have f126 := f123.ext E125
  have f127 := f124.ext E125
  have SZ125 : n0 ≤ h125.size := Nat.le_trans SZ122 E125.1
  have f128 : own_Av Z h125 b125 .int 4 (fun _ => (.int (0 : Int32))) := own_Av.ofnew A125 (by decide) rfl
  refine own_by st125 ?_
  show own_Go p e below T125 (mkF m 64 #[.val (.int sh0), .val (.int pm0), .val (.int nd0), .val (.ref lp), .val (.int r_), .val (.int k_), .val (.ref b122), .unset, .unset, .unset, .unset, .unset, .unset, .unset, .unset] [(.ref b125)]) _
  refine own_s_astore X125.here hx #[.val (.int sh0), .val (.int pm0), .val (.int nd0), .val (.ref lp), .val (.int r_), .val (.int k_), .val (.ref b122), .val (.ref b125), .unset, .unset, .unset, .unset, .unset, .unset, .unset] (hb hby at_64) rfl rfl ?_
  refine own_s_aload X125.here hx (hb hby at_66) rfl rfl ?_
  refine own_s_iconst X125.here hx (0 : Int32) (hb hby at_68) rfl ?_
  refine own_s_iload X125.here hx (hb hby at_69) rfl ?_
  refine own_s_iload X125.here hx (hb hby at_71) rfl ?_
  obtain ⟨_, _, ⟨T129, L129, k129, n129⟩, -, X129, ⟨Lc129, hQ129, l129, y129, z129⟩, st129⟩ := Jvm.LawKit.callS X125 hx (y := (⟨"com/example/geodesic/geodesic/graph/ShortestPathsWalkPinLaw", "s", "(III)I"⟩ : MethodName)) hown (mvT hZ (hw _ (List.mem_of_getElem? (i := 1) rfl))) (mvT hZ (hw _ (List.mem_of_getElem? (i := 2) rfl))) (mvT hZ (hw _ (List.mem_of_getElem? (i := 3) rfl))) (mvT hZ (hw _ (List.mem_of_getElem? (i := 4) rfl))) (by decide) (backOf (W := 1) (own_r1 l Z a0 hw [] (0 : Int32) r_ k_  h125 n0 SZ125 ) hZ (hw _ (List.mem_of_getElem? (i := 4) rfl)) (hw _ (List.mem_of_getElem? (i := 3) rfl)) (by decide) (by decide)) (g := (mkF m 73 #[.val (.int sh0), .val (.int pm0), .val (.int nd0), .val (.ref lp), .val (.int r_), .val (.int k_), .val (.ref b122), .val (.ref b125), .unset, .unset, .unset, .unset, .unset, .unset, .unset] [(.int k_), (.int r_), (.int (0 : Int32)), (.ref b122)])) rfl (by rw [hml]; rfl) (argsL := [(.int (0 : Int32)), (.int r_), (.int k_)]) (rest := [(.ref b122)]) (lenOf own_pd_0 rfl) rfl (by show 2 * 0 + _ ≤ _; exact Nat.le_of_eq rfl) (hb hby at_73) (fun _ _ => ⟨rfl, e125, (by decide : 3 + 0 ≤ _), (by decide : 12 + 0 ≤ _)⟩)
  dsimp only [Pt.U, Pt.locs, Pt.cells, Pt.slots] at X129 l129 y129 z129 st129 hQ129
  subst l129 y129 z129
  obtain ⟨rfl, N129q, e129⟩ := hQ129
  have N129 := Fr.app N121 N129q
  refine own_by st129 ?_
  show own_Go p e below T129 (mkF m 76 #[.val (.int sh0), .val (.int pm0), .val (.int nd0), .val (.ref lp), .val (.int r_), .val (.int k_), .val (.ref b122), .val (.ref b125), .unset, .unset, .unset, .unset, .unset, .unset, .unset] [(.int (own_f1 (0 : Int32) r_ k_)), (.ref b122)]) _
  refine own_s_aloadN X129.here hx (hb hby at_76) rfl rfl ?_
  refine own_s_iconst X129.here hx (0 : Int32) (hb hby at_77) rfl ?_
  refine own_by (fun tq_ kq_ => own_ldI X129 hx hZ e129 f126 (k := 0) (v := (.int (-1 : Int32))) (by decide) (by decide) rfl (g := (mkF m 78 #[.val (.int sh0), .val (.int pm0), .val (.int nd0), .val (.ref lp), .val (.int r_), .val (.int k_), .val (.ref b122), .val (.ref b125), .unset, .unset, .unset, .unset, .unset, .unset, .unset] [(.int (0 : Int32)), (.ref lp), (.int (own_f1 (0 : Int32) r_ k_)), (.ref b122)])) rfl rfl (hb hby at_78) tq_ kq_) ?_
  show own_Go p e below T129 (mkF m 79 #[.val (.int sh0), .val (.int pm0), .val (.int nd0), .val (.ref lp), .val (.int r_), .val (.int k_), .val (.ref b122), .val (.ref b125), .unset, .unset, .unset, .unset, .unset, .unset, .unset] [(.int (-1 : Int32)), (.int (own_f1 (0 : Int32) r_ k_)), (.ref b122)]) _
  refine own_s_iload X129.here hx (hb hby at_79) rfl ?_
  refine own_s_iload X129.here hx (hb hby at_81) rfl ?_
  obtain ⟨_, _, ⟨T130, L130, k130, n130⟩, -, X130, ⟨Lc130, hQ130, l130, y130, z130⟩, st130⟩ := Jvm.LawKit.callS X129 hx (y := (⟨"com/example/geodesic/geodesic/graph/ShortestPathsWalkPinLaw", "img", "(III)I"⟩ : MethodName)) hown (mvT hZ (hw _ (List.mem_of_getElem? (i := 5) rfl))) (mvT hZ (hw _ (List.mem_of_getElem? (i := 6) rfl))) (mvT hZ (hw _ (List.mem_of_getElem? (i := 3) rfl))) (mvT hZ (hw _ (List.mem_of_getElem? (i := 7) rfl))) (by decide) (backOf (W := 2) (own_r2 l Z a0 hw [] (-1 : Int32) r_ k_  h125 n0 SZ125 ) hZ (hw _ (List.mem_of_getElem? (i := 7) rfl)) (hw _ (List.mem_of_getElem? (i := 3) rfl)) (by decide) (by decide)) (g := (mkF m 83 #[.val (.int sh0), .val (.int pm0), .val (.int nd0), .val (.ref lp), .val (.int r_), .val (.int k_), .val (.ref b122), .val (.ref b125), .unset, .unset, .unset, .unset, .unset, .unset, .unset] [(.int k_), (.int r_), (.int (-1 : Int32)), (.int (own_f1 (0 : Int32) r_ k_)), (.ref b122)])) rfl (by rw [hml]; rfl) (argsL := [(.int (-1 : Int32)), (.int r_), (.int k_)]) (rest := [(.int (own_f1 (0 : Int32) r_ k_)), (.ref b122)]) (lenOf own_pd_0 rfl) rfl (by show 2 * 0 + _ ≤ _; exact Nat.le_of_eq rfl) (hb hby at_83) (fun _ _ => ⟨rfl, e129, (by decide : 3 + 0 ≤ _), (by decide : 12 + 0 ≤ _)⟩)
  dsimp only [Pt.U, Pt.locs, Pt.cells, Pt.slots] at X130 l130 y130 z130 st130 hQ130
  subst l130 y130 z130
  obtain ⟨rfl, N130q, e130⟩ := hQ130
  have N130 := Fr.app N129 N130q
  refine own_by st130 ?_
  show own_Go p e below T130 (mkF m 86 #[.val (.int sh0), .val (.int pm0), .val (.int nd0), .val (.ref lp), .val (.int r_), .val (.int k_), .val (.ref b122), .val (.ref b125), .unset, .unset, .unset, .unset, .unset, .unset, .unset] [(.int (own_f2 (-1 : Int32) r_ k_)), (.int (own_f1 (0 : Int32) r_ k_)), (.ref b122)]) _
  obtain ⟨T131, h131, X131, e131, W131, fa131, st131⟩ := own_stI X130 hx hZ e130 f127 (k := (own_f1 (0 : Int32) r_ k_).toNatClampNeg) ⟨f0.1, rfl⟩ f0.2.1 (g := (mkF m 86 #[.val (.int sh0), .val (.int pm0), .val (.int nd0), .val (.ref lp), .val (.int r_), .val (.int k_), .val (.ref b122), .val (.ref b125), .unset, .unset, .unset, .unset, .unset, .unset, .unset] [(.int (own_f2 (-1 : Int32) r_ k_)), (.int (own_f1 (0 : Int32) r_ k_)), (.ref b122)])) rfl rfl (hb hby at_86)
  have f132 := f126.other W131 ne_lp_b122
  have f133 := f128.other W131 (Ne.symm ne_b122_b125)
  have N131 := Fr.snoc X131 N130 ge_b122
  have SZ131 : n0 ≤ h131.size := by rw [W131.size]; exact SZ125
  refine own_by st131 ?_
  show own_Go p e below T131 (mkF m 87 #[.val (.int sh0), .val (.int pm0), .val (.int nd0), .val (.ref lp), .val (.int r_), .val (.int k_), .val (.ref b122), .val (.ref b125), .unset, .unset, .unset, .unset, .unset, .unset, .unset] []) _
  refine own_s_aload X131.here hx (hb hby at_87) rfl rfl ?_
  refine own_s_iconst X131.here hx (1 : Int32) (hb hby at_89) rfl ?_
  refine own_s_iload X131.here hx (hb hby at_90) rfl ?_
  refine own_s_iload X131.here hx (hb hby at_92) rfl ?_
  obtain ⟨_, _, ⟨T134, L134, k134, n134⟩, -, X134, ⟨Lc134, hQ134, l134, y134, z134⟩, st134⟩ := Jvm.LawKit.callS X131 hx (y := (⟨"com/example/geodesic/geodesic/graph/ShortestPathsWalkPinLaw", "s", "(III)I"⟩ : MethodName)) hown (mvT hZ (hw _ (List.mem_of_getElem? (i := 1) rfl))) (mvT hZ (hw _ (List.mem_of_getElem? (i := 2) rfl))) (mvT hZ (hw _ (List.mem_of_getElem? (i := 3) rfl))) (mvT hZ (hw _ (List.mem_of_getElem? (i := 4) rfl))) (by decide) (backOf (W := 1) (own_r1 l Z a0 hw [] (1 : Int32) r_ k_  h131 n0 SZ131 ) hZ (hw _ (List.mem_of_getElem? (i := 4) rfl)) (hw _ (List.mem_of_getElem? (i := 3) rfl)) (by decide) (by decide)) (g := (mkF m 94 #[.val (.int sh0), .val (.int pm0), .val (.int nd0), .val (.ref lp), .val (.int r_), .val (.int k_), .val (.ref b122), .val (.ref b125), .unset, .unset, .unset, .unset, .unset, .unset, .unset] [(.int k_), (.int r_), (.int (1 : Int32)), (.ref b122)])) rfl (by rw [hml]; rfl) (argsL := [(.int (1 : Int32)), (.int r_), (.int k_)]) (rest := [(.ref b122)]) (lenOf own_pd_0 rfl) rfl (by show 2 * 0 + _ ≤ _; exact Nat.le_of_eq rfl) (hb hby at_94) (fun _ _ => ⟨rfl, e131, (by decide : 3 + 0 ≤ _), (by decide : 12 + 0 ≤ _)⟩)
  dsimp only [Pt.U, Pt.locs, Pt.cells, Pt.slots] at X134 l134 y134 z134 st134 hQ134
  subst l134 y134 z134
  obtain ⟨rfl, N134q, e134⟩ := hQ134
  have N134 := Fr.app N131 N134q
  refine own_by st134 ?_
  show own_Go p e below T134 (mkF m 97 #[.val (.int sh0), .val (.int pm0), .val (.int nd0), .val (.ref lp), .val (.int r_), .val (.int k_), .val (.ref b122), .val (.ref b125), .unset, .unset, .unset, .unset, .unset, .unset, .unset] [(.int (own_f1 (1 : Int32) r_ k_)), (.ref b122)]) _
  refine own_s_aloadN X134.here hx (hb hby at_97) rfl rfl ?_
  refine own_s_iconst X134.here hx (1 : Int32) (hb hby at_98) rfl ?_
  refine own_by (fun tq_ kq_ => own_ldI X134 hx hZ e134 f132 (k := 1) (v := (.int l1)) (by decide) (by decide) rfl (g := (mkF m 99 #[.val (.int sh0), .val (.int pm0), .val (.int nd0), .val (.ref lp), .val (.int r_), .val (.int k_), .val (.ref b122), .val (.ref b125), .unset, .unset, .unset, .unset, .unset, .unset, .unset] [(.int (1 : Int32)), (.ref lp), (.int (own_f1 (1 : Int32) r_ k_)), (.ref b122)])) rfl rfl (hb hby at_99) tq_ kq_) ?_
  show own_Go p e below T134 (mkF m 100 #[.val (.int sh0), .val (.int pm0), .val (.int nd0), .val (.ref lp), .val (.int r_), .val (.int k_), .val (.ref b122), .val (.ref b125), .unset, .unset, .unset, .unset, .unset, .unset, .unset] [(.int l1), (.int (own_f1 (1 : Int32) r_ k_)), (.ref b122)]) _
  refine own_s_iload X134.here hx (hb hby at_100) rfl ?_
  refine own_s_iload X134.here hx (hb hby at_102) rfl ?_
  obtain ⟨_, _, ⟨T135, L135, k135, n135⟩, -, X135, ⟨Lc135, hQ135, l135, y135, z135⟩, st135⟩ := Jvm.LawKit.callS X134 hx (y := (⟨"com/example/geodesic/geodesic/graph/ShortestPathsWalkPinLaw", "img", "(III)I"⟩ : MethodName)) hown (mvT hZ (hw _ (List.mem_of_getElem? (i := 5) rfl))) (mvT hZ (hw _ (List.mem_of_getElem? (i := 6) rfl))) (mvT hZ (hw _ (List.mem_of_getElem? (i := 3) rfl))) (mvT hZ (hw _ (List.mem_of_getElem? (i := 7) rfl))) (by decide) (backOf (W := 2) (own_r2 l Z a0 hw [] l1 r_ k_  h131 n0 SZ131 ) hZ (hw _ (List.mem_of_getElem? (i := 7) rfl)) (hw _ (List.mem_of_getElem? (i := 3) rfl)) (by decide) (by decide)) (g := (mkF m 104 #[.val (.int sh0), .val (.int pm0), .val (.int nd0), .val (.ref lp), .val (.int r_), .val (.int k_), .val (.ref b122), .val (.ref b125), .unset, .unset, .unset, .unset, .unset, .unset, .unset] [(.int k_), (.int r_), (.int l1), (.int (own_f1 (1 : Int32) r_ k_)), (.ref b122)])) rfl (by rw [hml]; rfl) (argsL := [(.int l1), (.int r_), (.int k_)]) (rest := [(.int (own_f1 (1 : Int32) r_ k_)), (.ref b122)]) (lenOf own_pd_0 rfl) rfl (by show 2 * 0 + _ ≤ _; exact Nat.le_of_eq rfl) (hb hby at_104) (fun _ _ => ⟨rfl, e134, (by decide : 3 + 0 ≤ _), (by decide : 12 + 0 ≤ _)⟩)
  dsimp only [Pt.U, Pt.locs, Pt.cells, Pt.slots] at X135 l135 y135 z135 st135 hQ135
  subst l135 y135 z135
  obtain ⟨rfl, N135q, e135⟩ := hQ135
  have N135 := Fr.app N134 N135q
  refine own_by st135 ?_
  show own_Go p e below T135 (mkF m 107 #[.val (.int sh0), .val (.int pm0), .val (.int nd0), .val (.ref lp), .val (.int r_), .val (.int k_), .val (.ref b122), .val (.ref b125), .unset, .unset, .unset, .unset, .unset, .unset, .unset] [(.int (own_f2 l1 r_ k_)), (.int (own_f1 (1 : Int32) r_ k_)), (.ref b122)]) _
  obtain ⟨T136, h136, X136, e136, W136, fa136, st136⟩ := own_stI X135 hx hZ e135 fa131 (k := (own_f1 (1 : Int32) r_ k_).toNatClampNeg) ⟨f1.1, rfl⟩ f1.2.1 (g := (mkF m 107 #[.val (.int sh0), .val (.int pm0), .val (.int nd0), .val (.ref lp), .val (.int r_), .val (.int k_), .val (.ref b122), .val (.ref b125), .unset, .unset, .unset, .unset, .unset, .unset, .unset] [(.int (own_f2 l1 r_ k_)), (.int (own_f1 (1 : Int32) r_ k_)), (.ref b122)])) rfl rfl (hb hby at_107)
  have f137 := f132.other W136 ne_lp_b122
  have f138 := f133.other W136 (Ne.symm ne_b122_b125)
  have N136 := Fr.snoc X136 N135 ge_b122
  have SZ136 : n0 ≤ h136.size := by rw [W136.size]; exact SZ131
  refine own_by st136 ?_
  show own_Go p e below T136 (mkF m 108 #[.val (.int sh0), .val (.int pm0), .val (.int nd0), .val (.ref lp), .val (.int r_), .val (.int k_), .val (.ref b122), .val (.ref b125), .unset, .unset, .unset, .unset, .unset, .unset, .unset] []) _
  refine own_s_aload X136.here hx (hb hby at_108) rfl rfl ?_
  refine own_s_iconst X136.here hx (2 : Int32) (hb hby at_110) rfl ?_
  refine own_s_iload X136.here hx (hb hby at_111) rfl ?_
  refine own_s_iload X136.here hx (hb hby at_113) rfl ?_
  obtain ⟨_, _, ⟨T139, L139, k139, n139⟩, -, X139, ⟨Lc139, hQ139, l139, y139, z139⟩, st139⟩ := Jvm.LawKit.callS X136 hx (y := (⟨"com/example/geodesic/geodesic/graph/ShortestPathsWalkPinLaw", "s", "(III)I"⟩ : MethodName)) hown (mvT hZ (hw _ (List.mem_of_getElem? (i := 1) rfl))) (mvT hZ (hw _ (List.mem_of_getElem? (i := 2) rfl))) (mvT hZ (hw _ (List.mem_of_getElem? (i := 3) rfl))) (mvT hZ (hw _ (List.mem_of_getElem? (i := 4) rfl))) (by decide) (backOf (W := 1) (own_r1 l Z a0 hw [] (2 : Int32) r_ k_  h136 n0 SZ136 ) hZ (hw _ (List.mem_of_getElem? (i := 4) rfl)) (hw _ (List.mem_of_getElem? (i := 3) rfl)) (by decide) (by decide)) (g := (mkF m 115 #[.val (.int sh0), .val (.int pm0), .val (.int nd0), .val (.ref lp), .val (.int r_), .val (.int k_), .val (.ref b122), .val (.ref b125), .unset, .unset, .unset, .unset, .unset, .unset, .unset] [(.int k_), (.int r_), (.int (2 : Int32)), (.ref b122)])) rfl (by rw [hml]; rfl) (argsL := [(.int (2 : Int32)), (.int r_), (.int k_)]) (rest := [(.ref b122)]) (lenOf own_pd_0 rfl) rfl (by show 2 * 0 + _ ≤ _; exact Nat.le_of_eq rfl) (hb hby at_115) (fun _ _ => ⟨rfl, e136, (by decide : 3 + 0 ≤ _), (by decide : 12 + 0 ≤ _)⟩)
  dsimp only [Pt.U, Pt.locs, Pt.cells, Pt.slots] at X139 l139 y139 z139 st139 hQ139
  subst l139 y139 z139
  obtain ⟨rfl, N139q, e139⟩ := hQ139
  have N139 := Fr.app N136 N139q
  refine own_by st139 ?_
  show own_Go p e below T139 (mkF m 118 #[.val (.int sh0), .val (.int pm0), .val (.int nd0), .val (.ref lp), .val (.int r_), .val (.int k_), .val (.ref b122), .val (.ref b125), .unset, .unset, .unset, .unset, .unset, .unset, .unset] [(.int (own_f1 (2 : Int32) r_ k_)), (.ref b122)]) _
  refine own_s_aloadN X139.here hx (hb hby at_118) rfl rfl ?_
  refine own_s_iconst X139.here hx (2 : Int32) (hb hby at_119) rfl ?_
  refine own_by (fun tq_ kq_ => own_ldI X139 hx hZ e139 f137 (k := 2) (v := (.int l2)) (by decide) (by decide) rfl (g := (mkF m 120 #[.val (.int sh0), .val (.int pm0), .val (.int nd0), .val (.ref lp), .val (.int r_), .val (.int k_), .val (.ref b122), .val (.ref b125), .unset, .unset, .unset, .unset, .unset, .unset, .unset] [(.int (2 : Int32)), (.ref lp), (.int (own_f1 (2 : Int32) r_ k_)), (.ref b122)])) rfl rfl (hb hby at_120) tq_ kq_) ?_
  show own_Go p e below T139 (mkF m 121 #[.val (.int sh0), .val (.int pm0), .val (.int nd0), .val (.ref lp), .val (.int r_), .val (.int k_), .val (.ref b122), .val (.ref b125), .unset, .unset, .unset, .unset, .unset, .unset, .unset] [(.int l2), (.int (own_f1 (2 : Int32) r_ k_)), (.ref b122)]) _
  refine own_s_iload X139.here hx (hb hby at_121) rfl ?_
  refine own_s_iload X139.here hx (hb hby at_123) rfl ?_
  obtain ⟨_, _, ⟨T140, L140, k140, n140⟩, -, X140, ⟨Lc140, hQ140, l140, y140, z140⟩, st140⟩ := Jvm.LawKit.callS X139 hx (y := (⟨"com/example/geodesic/geodesic/graph/ShortestPathsWalkPinLaw", "img", "(III)I"⟩ : MethodName)) hown (mvT hZ (hw _ (List.mem_of_getElem? (i := 5) rfl))) (mvT hZ (hw _ (List.mem_of_getElem? (i := 6) rfl))) (mvT hZ (hw _ (List.mem_of_getElem? (i := 3) rfl))) (mvT hZ (hw _ (List.mem_of_getElem? (i := 7) rfl))) (by decide) (backOf (W := 2) (own_r2 l Z a0 hw [] l2 r_ k_  h136 n0 SZ136 ) hZ (hw _ (List.mem_of_getElem? (i := 7) rfl)) (hw _ (List.mem_of_getElem? (i := 3) rfl)) (by decide) (by decide)) (g := (mkF m 125 #[.val (.int sh0), .val (.int pm0), .val (.int nd0), .val (.ref lp), .val (.int r_), .val (.int k_), .val (.ref b122), .val (.ref b125), .unset, .unset, .unset, .unset, .unset, .unset, .unset] [(.int k_), (.int r_), (.int l2), (.int (own_f1 (2 : Int32) r_ k_)), (.ref b122)])) rfl (by rw [hml]; rfl) (argsL := [(.int l2), (.int r_), (.int k_)]) (rest := [(.int (own_f1 (2 : Int32) r_ k_)), (.ref b122)]) (lenOf own_pd_0 rfl) rfl (by show 2 * 0 + _ ≤ _; exact Nat.le_of_eq rfl) (hb hby at_125) (fun _ _ => ⟨rfl, e139, (by decide : 3 + 0 ≤ _), (by decide : 12 + 0 ≤ _)⟩)
  dsimp only [Pt.U, Pt.locs, Pt.cells, Pt.slots] at X140 l140 y140 z140 st140 hQ140
  subst l140 y140 z140
  obtain ⟨rfl, N140q, e140⟩ := hQ140
  have N140 := Fr.app N139 N140q
  refine own_by st140 ?_
  show own_Go p e below T140 (mkF m 128 #[.val (.int sh0), .val (.int pm0), .val (.int nd0), .val (.ref lp), .val (.int r_), .val (.int k_), .val (.ref b122), .val (.ref b125), .unset, .unset, .unset, .unset, .unset, .unset, .unset] [(.int (own_f2 l2 r_ k_)), (.int (own_f1 (2 : Int32) r_ k_)), (.ref b122)]) _
  obtain ⟨T141, h141, X141, e141, W141, fa141, st141⟩ := own_stI X140 hx hZ e140 fa136 (k := (own_f1 (2 : Int32) r_ k_).toNatClampNeg) ⟨f2.1, rfl⟩ f2.2.1 (g := (mkF m 128 #[.val (.int sh0), .val (.int pm0), .val (.int nd0), .val (.ref lp), .val (.int r_), .val (.int k_), .val (.ref b122), .val (.ref b125), .unset, .unset, .unset, .unset, .unset, .unset, .unset] [(.int (own_f2 l2 r_ k_)), (.int (own_f1 (2 : Int32) r_ k_)), (.ref b122)])) rfl rfl (hb hby at_128)
  have f142 := f137.other W141 ne_lp_b122
  have f143 := f138.other W141 (Ne.symm ne_b122_b125)
  have N141 := Fr.snoc X141 N140 ge_b122
  have SZ141 : n0 ≤ h141.size := by rw [W141.size]; exact SZ136
  refine own_by st141 ?_
  show own_Go p e below T141 (mkF m 129 #[.val (.int sh0), .val (.int pm0), .val (.int nd0), .val (.ref lp), .val (.int r_), .val (.int k_), .val (.ref b122), .val (.ref b125), .unset, .unset, .unset, .unset, .unset, .unset, .unset] []) _
  refine own_s_aload X141.here hx (hb hby at_129) rfl rfl ?_
  refine own_s_iconst X141.here hx (3 : Int32) (hb hby at_131) rfl ?_
  refine own_s_iload X141.here hx (hb hby at_132) rfl ?_
  refine own_s_iload X141.here hx (hb hby at_134) rfl ?_
  obtain ⟨_, _, ⟨T144, L144, k144, n144⟩, -, X144, ⟨Lc144, hQ144, l144, y144, z144⟩, st144⟩ := Jvm.LawKit.callS X141 hx (y := (⟨"com/example/geodesic/geodesic/graph/ShortestPathsWalkPinLaw", "s", "(III)I"⟩ : MethodName)) hown (mvT hZ (hw _ (List.mem_of_getElem? (i := 1) rfl))) (mvT hZ (hw _ (List.mem_of_getElem? (i := 2) rfl))) (mvT hZ (hw _ (List.mem_of_getElem? (i := 3) rfl))) (mvT hZ (hw _ (List.mem_of_getElem? (i := 4) rfl))) (by decide) (backOf (W := 1) (own_r1 l Z a0 hw [] (3 : Int32) r_ k_  h141 n0 SZ141 ) hZ (hw _ (List.mem_of_getElem? (i := 4) rfl)) (hw _ (List.mem_of_getElem? (i := 3) rfl)) (by decide) (by decide)) (g := (mkF m 136 #[.val (.int sh0), .val (.int pm0), .val (.int nd0), .val (.ref lp), .val (.int r_), .val (.int k_), .val (.ref b122), .val (.ref b125), .unset, .unset, .unset, .unset, .unset, .unset, .unset] [(.int k_), (.int r_), (.int (3 : Int32)), (.ref b122)])) rfl (by rw [hml]; rfl) (argsL := [(.int (3 : Int32)), (.int r_), (.int k_)]) (rest := [(.ref b122)]) (lenOf own_pd_0 rfl) rfl (by show 2 * 0 + _ ≤ _; exact Nat.le_of_eq rfl) (hb hby at_136) (fun _ _ => ⟨rfl, e141, (by decide : 3 + 0 ≤ _), (by decide : 12 + 0 ≤ _)⟩)
  dsimp only [Pt.U, Pt.locs, Pt.cells, Pt.slots] at X144 l144 y144 z144 st144 hQ144
  subst l144 y144 z144
  obtain ⟨rfl, N144q, e144⟩ := hQ144
  have N144 := Fr.app N141 N144q
  refine own_by st144 ?_
  show own_Go p e below T144 (mkF m 139 #[.val (.int sh0), .val (.int pm0), .val (.int nd0), .val (.ref lp), .val (.int r_), .val (.int k_), .val (.ref b122), .val (.ref b125), .unset, .unset, .unset, .unset, .unset, .unset, .unset] [(.int (own_f1 (3 : Int32) r_ k_)), (.ref b122)]) _
  refine own_s_aloadN X144.here hx (hb hby at_139) rfl rfl ?_
  refine own_s_iconst X144.here hx (3 : Int32) (hb hby at_140) rfl ?_
  refine own_by (fun tq_ kq_ => own_ldI X144 hx hZ e144 f142 (k := 3) (v := (.int l3)) (by decide) (by decide) rfl (g := (mkF m 141 #[.val (.int sh0), .val (.int pm0), .val (.int nd0), .val (.ref lp), .val (.int r_), .val (.int k_), .val (.ref b122), .val (.ref b125), .unset, .unset, .unset, .unset, .unset, .unset, .unset] [(.int (3 : Int32)), (.ref lp), (.int (own_f1 (3 : Int32) r_ k_)), (.ref b122)])) rfl rfl (hb hby at_141) tq_ kq_) ?_
  show own_Go p e below T144 (mkF m 142 #[.val (.int sh0), .val (.int pm0), .val (.int nd0), .val (.ref lp), .val (.int r_), .val (.int k_), .val (.ref b122), .val (.ref b125), .unset, .unset, .unset, .unset, .unset, .unset, .unset] [(.int l3), (.int (own_f1 (3 : Int32) r_ k_)), (.ref b122)]) _
  refine own_s_iload X144.here hx (hb hby at_142) rfl ?_
  refine own_s_iload X144.here hx (hb hby at_144) rfl ?_
  obtain ⟨_, _, ⟨T145, L145, k145, n145⟩, -, X145, ⟨Lc145, hQ145, l145, y145, z145⟩, st145⟩ := Jvm.LawKit.callS X144 hx (y := (⟨"com/example/geodesic/geodesic/graph/ShortestPathsWalkPinLaw", "img", "(III)I"⟩ : MethodName)) hown (mvT hZ (hw _ (List.mem_of_getElem? (i := 5) rfl))) (mvT hZ (hw _ (List.mem_of_getElem? (i := 6) rfl))) (mvT hZ (hw _ (List.mem_of_getElem? (i := 3) rfl))) (mvT hZ (hw _ (List.mem_of_getElem? (i := 7) rfl))) (by decide) (backOf (W := 2) (own_r2 l Z a0 hw [] l3 r_ k_  h141 n0 SZ141 ) hZ (hw _ (List.mem_of_getElem? (i := 7) rfl)) (hw _ (List.mem_of_getElem? (i := 3) rfl)) (by decide) (by decide)) (g := (mkF m 146 #[.val (.int sh0), .val (.int pm0), .val (.int nd0), .val (.ref lp), .val (.int r_), .val (.int k_), .val (.ref b122), .val (.ref b125), .unset, .unset, .unset, .unset, .unset, .unset, .unset] [(.int k_), (.int r_), (.int l3), (.int (own_f1 (3 : Int32) r_ k_)), (.ref b122)])) rfl (by rw [hml]; rfl) (argsL := [(.int l3), (.int r_), (.int k_)]) (rest := [(.int (own_f1 (3 : Int32) r_ k_)), (.ref b122)]) (lenOf own_pd_0 rfl) rfl (by show 2 * 0 + _ ≤ _; exact Nat.le_of_eq rfl) (hb hby at_146) (fun _ _ => ⟨rfl, e144, (by decide : 3 + 0 ≤ _), (by decide : 12 + 0 ≤ _)⟩)
  dsimp only [Pt.U, Pt.locs, Pt.cells, Pt.slots] at X145 l145 y145 z145 st145 hQ145
  subst l145 y145 z145
  obtain ⟨rfl, N145q, e145⟩ := hQ145
  have N145 := Fr.app N144 N145q
  refine own_by st145 ?_
  show own_Go p e below T145 (mkF m 149 #[.val (.int sh0), .val (.int pm0), .val (.int nd0), .val (.ref lp), .val (.int r_), .val (.int k_), .val (.ref b122), .val (.ref b125), .unset, .unset, .unset, .unset, .unset, .unset, .unset] [(.int (own_f2 l3 r_ k_)), (.int (own_f1 (3 : Int32) r_ k_)), (.ref b122)]) _
  obtain ⟨T146, h146, X146, e146, W146, fa146, st146⟩ := own_stI X145 hx hZ e145 fa141 (k := (own_f1 (3 : Int32) r_ k_).toNatClampNeg) ⟨f3.1, rfl⟩ f3.2.1 (g := (mkF m 149 #[.val (.int sh0), .val (.int pm0), .val (.int nd0), .val (.ref lp), .val (.int r_), .val (.int k_), .val (.ref b122), .val (.ref b125), .unset, .unset, .unset, .unset, .unset, .unset, .unset] [(.int (own_f2 l3 r_ k_)), (.int (own_f1 (3 : Int32) r_ k_)), (.ref b122)])) rfl rfl (hb hby at_149)
  have f147 := f142.other W146 ne_lp_b122
  have f148 := f143.other W146 (Ne.symm ne_b122_b125)
  have N146 := Fr.snoc X146 N145 ge_b122
  have SZ146 : n0 ≤ h146.size := by rw [W146.size]; exact SZ141
  refine own_by st146 ?_
  show own_Go p e below T146 (mkF m 150 #[.val (.int sh0), .val (.int pm0), .val (.int nd0), .val (.ref lp), .val (.int r_), .val (.int k_), .val (.ref b122), .val (.ref b125), .unset, .unset, .unset, .unset, .unset, .unset, .unset] []) _
  have f149 : own_Av Z h146 b122 .int 4 (fun i => .int ((own_pf ((own_f1 (0 : Int32) r_ k_).toNatClampNeg) ((own_f1 (1 : Int32) r_ k_).toNatClampNeg) ((own_f1 (2 : Int32) r_ k_).toNatClampNeg) ((own_f1 (3 : Int32) r_ k_).toNatClampNeg) (own_f2 (-1 : Int32) r_ k_) (own_f2 l1 r_ k_) (own_f2 l2 r_ k_) (own_f2 l3 r_ k_)) i)) := fa146.cong rfl (fun i _ => own_pf_eq _ _ _ _ _ _ _ _ i)
  refine own_s_aload X146.here hx (hb hby at_150) rfl rfl ?_
  refine own_s_iconst X146.here hx (0 : Int32) (hb hby at_152) rfl ?_
  refine own_s_aload X146.here hx (hb hby at_153) rfl rfl ?_
  refine own_s_iconst X146.here hx (0 : Int32) (hb hby at_155) rfl ?_
  refine own_by (fun tq_ kq_ => own_ldI X146 hx hZ e146 f149 (k := 0) (v := (.int ((own_pf ((own_f1 (0 : Int32) r_ k_).toNatClampNeg) ((own_f1 (1 : Int32) r_ k_).toNatClampNeg) ((own_f1 (2 : Int32) r_ k_).toNatClampNeg) ((own_f1 (3 : Int32) r_ k_).toNatClampNeg) (own_f2 (-1 : Int32) r_ k_) (own_f2 l1 r_ k_) (own_f2 l2 r_ k_) (own_f2 l3 r_ k_)) 0))) (by decide) (by decide) rfl (g := (mkF m 156 #[.val (.int sh0), .val (.int pm0), .val (.int nd0), .val (.ref lp), .val (.int r_), .val (.int k_), .val (.ref b122), .val (.ref b125), .unset, .unset, .unset, .unset, .unset, .unset, .unset] [(.int (0 : Int32)), (.ref b122), (.int (0 : Int32)), (.ref b125)])) rfl rfl (hb hby at_156) tq_ kq_) ?_
  show own_Go p e below T146 (mkF m 157 #[.val (.int sh0), .val (.int pm0), .val (.int nd0), .val (.ref lp), .val (.int r_), .val (.int k_), .val (.ref b122), .val (.ref b125), .unset, .unset, .unset, .unset, .unset, .unset, .unset] [(.int ((own_pf ((own_f1 (0 : Int32) r_ k_).toNatClampNeg) ((own_f1 (1 : Int32) r_ k_).toNatClampNeg) ((own_f1 (2 : Int32) r_ k_).toNatClampNeg) ((own_f1 (3 : Int32) r_ k_).toNatClampNeg) (own_f2 (-1 : Int32) r_ k_) (own_f2 l1 r_ k_) (own_f2 l2 r_ k_) (own_f2 l3 r_ k_)) 0)), (.int (0 : Int32)), (.ref b125)]) _
  obtain ⟨T150, h150, X150, e150, W150, fa150, st150⟩ := own_stI X146 hx hZ e146 f148 (k := 0) (by decide) (by decide) (g := (mkF m 157 #[.val (.int sh0), .val (.int pm0), .val (.int nd0), .val (.ref lp), .val (.int r_), .val (.int k_), .val (.ref b122), .val (.ref b125), .unset, .unset, .unset, .unset, .unset, .unset, .unset] [(.int ((own_pf ((own_f1 (0 : Int32) r_ k_).toNatClampNeg) ((own_f1 (1 : Int32) r_ k_).toNatClampNeg) ((own_f1 (2 : Int32) r_ k_).toNatClampNeg) ((own_f1 (3 : Int32) r_ k_).toNatClampNeg) (own_f2 (-1 : Int32) r_ k_) (own_f2 l1 r_ k_) (own_f2 l2 r_ k_) (own_f2 l3 r_ k_)) 0)), (.int (0 : Int32)), (.ref b125)])) rfl rfl (hb hby at_157)
  have f151 := f147.other W150 ne_lp_b125
  have f152 := f149.other W150 ne_b122_b125
  have N150 := Fr.snoc X150 N146 ge_b125
  have SZ150 : n0 ≤ h150.size := by rw [W150.size]; exact SZ146
  refine own_by st150 ?_
  show own_Go p e below T150 (mkF m 158 #[.val (.int sh0), .val (.int pm0), .val (.int nd0), .val (.ref lp), .val (.int r_), .val (.int k_), .val (.ref b122), .val (.ref b125), .unset, .unset, .unset, .unset, .unset, .unset, .unset] []) _
  refine own_s_aload X150.here hx (hb hby at_158) rfl rfl ?_
  refine own_s_iconst X150.here hx (1 : Int32) (hb hby at_160) rfl ?_
  refine own_s_aload X150.here hx (hb hby at_161) rfl rfl ?_
  refine own_s_iconst X150.here hx (1 : Int32) (hb hby at_163) rfl ?_
  refine own_by (fun tq_ kq_ => own_ldI X150 hx hZ e150 f152 (k := 1) (v := (.int ((own_pf ((own_f1 (0 : Int32) r_ k_).toNatClampNeg) ((own_f1 (1 : Int32) r_ k_).toNatClampNeg) ((own_f1 (2 : Int32) r_ k_).toNatClampNeg) ((own_f1 (3 : Int32) r_ k_).toNatClampNeg) (own_f2 (-1 : Int32) r_ k_) (own_f2 l1 r_ k_) (own_f2 l2 r_ k_) (own_f2 l3 r_ k_)) 1))) (by decide) (by decide) rfl (g := (mkF m 164 #[.val (.int sh0), .val (.int pm0), .val (.int nd0), .val (.ref lp), .val (.int r_), .val (.int k_), .val (.ref b122), .val (.ref b125), .unset, .unset, .unset, .unset, .unset, .unset, .unset] [(.int (1 : Int32)), (.ref b122), (.int (1 : Int32)), (.ref b125)])) rfl rfl (hb hby at_164) tq_ kq_) ?_
  show own_Go p e below T150 (mkF m 165 #[.val (.int sh0), .val (.int pm0), .val (.int nd0), .val (.ref lp), .val (.int r_), .val (.int k_), .val (.ref b122), .val (.ref b125), .unset, .unset, .unset, .unset, .unset, .unset, .unset] [(.int ((own_pf ((own_f1 (0 : Int32) r_ k_).toNatClampNeg) ((own_f1 (1 : Int32) r_ k_).toNatClampNeg) ((own_f1 (2 : Int32) r_ k_).toNatClampNeg) ((own_f1 (3 : Int32) r_ k_).toNatClampNeg) (own_f2 (-1 : Int32) r_ k_) (own_f2 l1 r_ k_) (own_f2 l2 r_ k_) (own_f2 l3 r_ k_)) 1)), (.int (1 : Int32)), (.ref b125)]) _
  obtain ⟨T153, h153, X153, e153, W153, fa153, st153⟩ := own_stI X150 hx hZ e150 fa150 (k := 1) (by decide) (by decide) (g := (mkF m 165 #[.val (.int sh0), .val (.int pm0), .val (.int nd0), .val (.ref lp), .val (.int r_), .val (.int k_), .val (.ref b122), .val (.ref b125), .unset, .unset, .unset, .unset, .unset, .unset, .unset] [(.int ((own_pf ((own_f1 (0 : Int32) r_ k_).toNatClampNeg) ((own_f1 (1 : Int32) r_ k_).toNatClampNeg) ((own_f1 (2 : Int32) r_ k_).toNatClampNeg) ((own_f1 (3 : Int32) r_ k_).toNatClampNeg) (own_f2 (-1 : Int32) r_ k_) (own_f2 l1 r_ k_) (own_f2 l2 r_ k_) (own_f2 l3 r_ k_)) 1)), (.int (1 : Int32)), (.ref b125)])) rfl rfl (hb hby at_165)
  have f154 := f151.other W153 ne_lp_b125
  have f155 := f152.other W153 ne_b122_b125
  have N153 := Fr.snoc X153 N150 ge_b125
  have SZ153 : n0 ≤ h153.size := by rw [W153.size]; exact SZ150
  refine own_by st153 ?_
  show own_Go p e below T153 (mkF m 166 #[.val (.int sh0), .val (.int pm0), .val (.int nd0), .val (.ref lp), .val (.int r_), .val (.int k_), .val (.ref b122), .val (.ref b125), .unset, .unset, .unset, .unset, .unset, .unset, .unset] []) _
  refine own_s_aload X153.here hx (hb hby at_166) rfl rfl ?_
  refine own_s_iconst X153.here hx (2 : Int32) (hb hby at_168) rfl ?_
  refine own_s_aload X153.here hx (hb hby at_169) rfl rfl ?_
  refine own_s_iconst X153.here hx (2 : Int32) (hb hby at_171) rfl ?_
  refine own_by (fun tq_ kq_ => own_ldI X153 hx hZ e153 f155 (k := 2) (v := (.int ((own_pf ((own_f1 (0 : Int32) r_ k_).toNatClampNeg) ((own_f1 (1 : Int32) r_ k_).toNatClampNeg) ((own_f1 (2 : Int32) r_ k_).toNatClampNeg) ((own_f1 (3 : Int32) r_ k_).toNatClampNeg) (own_f2 (-1 : Int32) r_ k_) (own_f2 l1 r_ k_) (own_f2 l2 r_ k_) (own_f2 l3 r_ k_)) 2))) (by decide) (by decide) rfl (g := (mkF m 172 #[.val (.int sh0), .val (.int pm0), .val (.int nd0), .val (.ref lp), .val (.int r_), .val (.int k_), .val (.ref b122), .val (.ref b125), .unset, .unset, .unset, .unset, .unset, .unset, .unset] [(.int (2 : Int32)), (.ref b122), (.int (2 : Int32)), (.ref b125)])) rfl rfl (hb hby at_172) tq_ kq_) ?_
  show own_Go p e below T153 (mkF m 173 #[.val (.int sh0), .val (.int pm0), .val (.int nd0), .val (.ref lp), .val (.int r_), .val (.int k_), .val (.ref b122), .val (.ref b125), .unset, .unset, .unset, .unset, .unset, .unset, .unset] [(.int ((own_pf ((own_f1 (0 : Int32) r_ k_).toNatClampNeg) ((own_f1 (1 : Int32) r_ k_).toNatClampNeg) ((own_f1 (2 : Int32) r_ k_).toNatClampNeg) ((own_f1 (3 : Int32) r_ k_).toNatClampNeg) (own_f2 (-1 : Int32) r_ k_) (own_f2 l1 r_ k_) (own_f2 l2 r_ k_) (own_f2 l3 r_ k_)) 2)), (.int (2 : Int32)), (.ref b125)]) _
  obtain ⟨T156, h156, X156, e156, W156, fa156, st156⟩ := own_stI X153 hx hZ e153 fa153 (k := 2) (by decide) (by decide) (g := (mkF m 173 #[.val (.int sh0), .val (.int pm0), .val (.int nd0), .val (.ref lp), .val (.int r_), .val (.int k_), .val (.ref b122), .val (.ref b125), .unset, .unset, .unset, .unset, .unset, .unset, .unset] [(.int ((own_pf ((own_f1 (0 : Int32) r_ k_).toNatClampNeg) ((own_f1 (1 : Int32) r_ k_).toNatClampNeg) ((own_f1 (2 : Int32) r_ k_).toNatClampNeg) ((own_f1 (3 : Int32) r_ k_).toNatClampNeg) (own_f2 (-1 : Int32) r_ k_) (own_f2 l1 r_ k_) (own_f2 l2 r_ k_) (own_f2 l3 r_ k_)) 2)), (.int (2 : Int32)), (.ref b125)])) rfl rfl (hb hby at_173)
  have f157 := f154.other W156 ne_lp_b125
  have f158 := f155.other W156 ne_b122_b125
  have N156 := Fr.snoc X156 N153 ge_b125
  have SZ156 : n0 ≤ h156.size := by rw [W156.size]; exact SZ153
  refine own_by st156 ?_
  show own_Go p e below T156 (mkF m 174 #[.val (.int sh0), .val (.int pm0), .val (.int nd0), .val (.ref lp), .val (.int r_), .val (.int k_), .val (.ref b122), .val (.ref b125), .unset, .unset, .unset, .unset, .unset, .unset, .unset] []) _
  refine own_s_aload X156.here hx (hb hby at_174) rfl rfl ?_
  refine own_s_iconst X156.here hx (3 : Int32) (hb hby at_176) rfl ?_
  refine own_s_aload X156.here hx (hb hby at_177) rfl rfl ?_
  refine own_s_iconst X156.here hx (3 : Int32) (hb hby at_179) rfl ?_
  refine own_by (fun tq_ kq_ => own_ldI X156 hx hZ e156 f158 (k := 3) (v := (.int ((own_pf ((own_f1 (0 : Int32) r_ k_).toNatClampNeg) ((own_f1 (1 : Int32) r_ k_).toNatClampNeg) ((own_f1 (2 : Int32) r_ k_).toNatClampNeg) ((own_f1 (3 : Int32) r_ k_).toNatClampNeg) (own_f2 (-1 : Int32) r_ k_) (own_f2 l1 r_ k_) (own_f2 l2 r_ k_) (own_f2 l3 r_ k_)) 3))) (by decide) (by decide) rfl (g := (mkF m 180 #[.val (.int sh0), .val (.int pm0), .val (.int nd0), .val (.ref lp), .val (.int r_), .val (.int k_), .val (.ref b122), .val (.ref b125), .unset, .unset, .unset, .unset, .unset, .unset, .unset] [(.int (3 : Int32)), (.ref b122), (.int (3 : Int32)), (.ref b125)])) rfl rfl (hb hby at_180) tq_ kq_) ?_
  show own_Go p e below T156 (mkF m 181 #[.val (.int sh0), .val (.int pm0), .val (.int nd0), .val (.ref lp), .val (.int r_), .val (.int k_), .val (.ref b122), .val (.ref b125), .unset, .unset, .unset, .unset, .unset, .unset, .unset] [(.int ((own_pf ((own_f1 (0 : Int32) r_ k_).toNatClampNeg) ((own_f1 (1 : Int32) r_ k_).toNatClampNeg) ((own_f1 (2 : Int32) r_ k_).toNatClampNeg) ((own_f1 (3 : Int32) r_ k_).toNatClampNeg) (own_f2 (-1 : Int32) r_ k_) (own_f2 l1 r_ k_) (own_f2 l2 r_ k_) (own_f2 l3 r_ k_)) 3)), (.int (3 : Int32)), (.ref b125)]) _
  obtain ⟨T159, h159, X159, e159, W159, fa159, st159⟩ := own_stI X156 hx hZ e156 fa156 (k := 3) (by decide) (by decide) (g := (mkF m 181 #[.val (.int sh0), .val (.int pm0), .val (.int nd0), .val (.ref lp), .val (.int r_), .val (.int k_), .val (.ref b122), .val (.ref b125), .unset, .unset, .unset, .unset, .unset, .unset, .unset] [(.int ((own_pf ((own_f1 (0 : Int32) r_ k_).toNatClampNeg) ((own_f1 (1 : Int32) r_ k_).toNatClampNeg) ((own_f1 (2 : Int32) r_ k_).toNatClampNeg) ((own_f1 (3 : Int32) r_ k_).toNatClampNeg) (own_f2 (-1 : Int32) r_ k_) (own_f2 l1 r_ k_) (own_f2 l2 r_ k_) (own_f2 l3 r_ k_)) 3)), (.int (3 : Int32)), (.ref b125)])) rfl rfl (hb hby at_181)
  have f160 := f157.other W159 ne_lp_b125
  have f161 := f158.other W159 ne_b122_b125
  have N159 := Fr.snoc X159 N156 ge_b125
  have SZ159 : n0 ≤ h159.size := by rw [W159.size]; exact SZ156
  refine own_by st159 ?_
  show own_Go p e below T159 (mkF m 182 #[.val (.int sh0), .val (.int pm0), .val (.int nd0), .val (.ref lp), .val (.int r_), .val (.int k_), .val (.ref b122), .val (.ref b125), .unset, .unset, .unset, .unset, .unset, .unset, .unset] []) _
  refine own_s_iloadN X159.here hx (hb hby at_182) rfl ?_
  refine own_s_iconst X159.here hx (3 : Int32) (hb hby at_183) rfl ?_
  refine own_s_iand X159.here hx (hb hby at_184) ?_
  refine own_s_istore X159.here hx #[.val (.int sh0), .val (.int pm0), .val (.int nd0), .val (.ref lp), .val (.int r_), .val (.int k_), .val (.ref b122), .val (.ref b125), .val (.int (nd0 &&& (3 : Int32))), .unset, .unset, .unset, .unset, .unset, .unset] (hb hby at_185) rfl ?_
  exact own_p187 hx hZ hw hby hml hown hnm hret hlk  sh0 pm0 nd0 r_ k_ l1 l2 l3 lp b122 b125 X159 e159 N159 SZ159 hr hk hL1 hL2 hL3 f160 f161 fa159
theorem own_ml : maxLocals = 15 := rfl
theorem own_ef0 (m : MethodId) (sh0 : Int32) (pm0 : Int32) (nd0 : Int32) : entryFrame m #[(.int sh0), (.int pm0), (.int nd0)] maxLocals = mkF m 0 #[.val (.int sh0), .val (.int pm0), .val (.int nd0), .unset, .unset, .unset, .unset, .unset, .unset, .unset, .unset, .unset, .unset, .unset, .unset] [] := by first | (simp [entryFrame, mkF, argsToLocals, Value.category, maxLocals]; done) | rfl
def own_q_own_r0 (Z : State) (sh0 : Int32) (pm0 : Int32) (nd0 : Int32) (h0 : Heap) (n0 : Nat) (v : Option Value) (h : Heap) (L : List Loc) : Prop := v = some (.int 1) ∧ Fr n0 L
set_option maxRecDepth 65536 in
set_option maxHeartbeats 40000000 in
theorem own_r0 (l : Launch) (Z : State) (a0 : Array Value) (hw : ∀ d ∈ tables_1, d.before a0 Z = true) (ws : List Jvm.Cond) (sh0 : Int32) (pm0 : Int32) (nd0 : Int32) (h0 : Heap) (n0 : Nat) (Z0 : n0 ≤ h0.size) :
    MetFree l x (head1 (Jvm.Cond.code x code maxLocals ret :: ws) room_1) (fun a U => a = #[(.int sh0), (.int pm0), (.int nd0)] ∧ Z.Warmed39 U.vm ∧ U.heap = h0) (fun _ _ _ _ _ => True) (fun _ U o U' => ∃ v L, o = .returned v ∧ own_q_own_r0 Z sh0 pm0 nd0 h0 n0 v U'.heap L ∧ FrameEnd U o U' L 16 128) := by
  refine MetFree.of_bodySF (plainFor_of_name own_pn_ShortestPathsWalkPinLaw) hisR ?_
  intro p e s m args below meth c T0 Bd hml0 hP hK
  obtain ⟨rfl, hZ, hh⟩ := hP
  have hx := Bd.exec
  have hby := Bd.bytes
  have hml : c.maxLocals = 15 := hml0
  have hown : s.vm.findClass "com/example/geodesic/geodesic/graph/ShortestPathsWalkPinLaw" = some m.cls := findClass_of_methodNamed Bd.named
  have hnm := (name_of_methodNamed Bd.named Bd.method).1
  have hret : meth.sig.returnType = (some .boolean) := Bd.returns
  have hlk : meth.locks = false := BodyLoose.notSynchronized Bd
  have X0 : Stand p l e room_1 s m #[(.int sh0), (.int pm0), (.int nd0)] below meth c T0 [] 0 0 := Stand.of_body Bd
  have e0 : T0.heap = h0 := by rw [← hh, Bd.state]; rfl
  have N0 := Fr.nil n0
  refine own_start (own_ef0 m sh0 pm0 nd0) (Q := fun (v : Option Value) (h : Heap) (L : List Loc) => v = some (.int 1) ∧ Fr n0 L) (k := 16) (j := 128) ?_
  show own_Go p e below T0 (mkF m 0 #[.val (.int sh0), .val (.int pm0), .val (.int nd0), .unset, .unset, .unset, .unset, .unset, .unset, .unset, .unset, .unset, .unset, .unset, .unset] []) _
  refine own_s_iconst X0.here hx (4 : Int32) (hb hby at_0) rfl ?_
  obtain ⟨T162, h162, k162, X162, e162, E162, A162, st162⟩ := newP X0 hx hZ (hw _ (List.mem_of_getElem? (i := 0) rfl)) e0 (g := (mkF m 1 #[.val (.int sh0), .val (.int pm0), .val (.int nd0), .unset, .unset, .unset, .unset, .unset, .unset, .unset, .unset, .unset, .unset, .unset, .unset] [(.int (4 : Int32))])) rfl (hb hby at_1) rfl (by decide) (cap := 4) (by decide) (by decide) (by decide) (by decide)
  obtain ⟨b162, g162⟩ : ∃ z, z = h0.size := ⟨_, rfl⟩
  rw [← g162] at A162 st162
  have ge_b162 : n0 ≤ b162 := Nat.le_trans Z0 (Nat.le_of_eq g162.symm)
  have SZ162 : n0 ≤ h162.size := Nat.le_trans Z0 E162.1
  have f163 : own_Av Z h162 b162 .int 4 (fun _ => (.int (0 : Int32))) := own_Av.ofnew A162 (by decide) rfl
  refine own_by st162 ?_
  show own_Go p e below T162 (mkF m 3 #[.val (.int sh0), .val (.int pm0), .val (.int nd0), .unset, .unset, .unset, .unset, .unset, .unset, .unset, .unset, .unset, .unset, .unset, .unset] [(.ref b162)]) _
  refine own_s_astoreN X162.here hx #[.val (.int sh0), .val (.int pm0), .val (.int nd0), .val (.ref b162), .unset, .unset, .unset, .unset, .unset, .unset, .unset, .unset, .unset, .unset, .unset] (hb hby at_3) rfl rfl ?_
  refine own_s_aloadN X162.here hx (hb hby at_4) rfl rfl ?_
  refine own_s_iconst X162.here hx (0 : Int32) (hb hby at_5) rfl ?_
  refine own_s_iconst X162.here hx (-1 : Int32) (hb hby at_6) rfl ?_
  obtain ⟨T164, h164, X164, e164, W164, fa164, st164⟩ := own_stI X162 hx hZ e162 f163 (k := 0) (by decide) (by decide) (g := (mkF m 7 #[.val (.int sh0), .val (.int pm0), .val (.int nd0), .val (.ref b162), .unset, .unset, .unset, .unset, .unset, .unset, .unset, .unset, .unset, .unset, .unset] [(.int (-1 : Int32)), (.int (0 : Int32)), (.ref b162)])) rfl rfl (hb hby at_7)
  have N164 := Fr.snoc X164 N0 ge_b162
  have SZ164 : n0 ≤ h164.size := by rw [W164.size]; exact SZ162
  refine own_by st164 ?_
  show own_Go p e below T164 (mkF m 8 #[.val (.int sh0), .val (.int pm0), .val (.int nd0), .val (.ref b162), .unset, .unset, .unset, .unset, .unset, .unset, .unset, .unset, .unset, .unset, .unset] []) _
  refine own_s_aloadN X164.here hx (hb hby at_8) rfl rfl ?_
  refine own_s_iconst X164.here hx (1 : Int32) (hb hby at_9) rfl ?_
  refine own_s_iloadN X164.here hx (hb hby at_10) rfl ?_
  refine own_s_iconst X164.here hx (1 : Int32) (hb hby at_11) rfl ?_
  refine own_s_iand X164.here hx (hb hby at_12) ?_
  by_cases hc13 : (sh0 &&& (1 : Int32)) = 0
  ·
    refine own_s_ifNo X164.here hx (hb hby at_13) (Jvm.Free.XT.i0_ne_f hc13) ?_
    refine own_s_iconst X164.here hx (-1 : Int32) (hb hby at_16) rfl ?_
    show own_Go p e below T164 (mkF m 17 #[.val (.int sh0), .val (.int pm0), .val (.int nd0), .val (.ref b162), .unset, .unset, .unset, .unset, .unset, .unset, .unset, .unset, .unset, .unset, .unset] [(.int (-1 : Int32)), (.int (1 : Int32)), (.ref b162)]) _
    refine own_s_goto X164.here hx 21 (hb hby at_17) (by decide) (by decide) ?_
    exact own_p21 hx hZ hw hby hml hown hnm hret hlk  sh0 pm0 nd0 (-1 : Int32) b162 X164 e164 N164 SZ164 (Or.inl rfl) fa164 ge_b162
  ·
    show own_Go p e below T164 (mkF m 13 #[.val (.int sh0), .val (.int pm0), .val (.int nd0), .val (.ref b162), .unset, .unset, .unset, .unset, .unset, .unset, .unset, .unset, .unset, .unset, .unset] [(.int (sh0 &&& (1 : Int32))), (.int (1 : Int32)), (.ref b162)]) _
    refine own_s_ifYes X164.here hx 20 (hb hby at_13) (Jvm.Free.XT.i0_ne_t hc13) (by decide) (by decide) ?_
    refine own_s_iconst X164.here hx (0 : Int32) (hb hby at_20) rfl ?_
    exact own_p21 hx hZ hw hby hml hown hnm hret hlk  sh0 pm0 nd0 (0 : Int32) b162 X164 e164 N164 SZ164 (Or.inr rfl) fa164 ge_b162
set_option maxRecDepth 65536 in
set_option maxHeartbeats 40000000 in
theorem own_comes {Post : Tables → Env → Array Value → State → Outcome → State → Prop} (hpost : ∀ tb e args s v u, (limb_1_1.after args s (.returned v) u = true ∧ limb_1_2.after args s (.returned v) u = true ∧ True) → FrameEnd s (.returned v) u (Jvm.fieldLocs frame_1_writes args s ++ Jvm.arrayLocs frame_1_arrays args s ++ Jvm.staticLocs frame_1_statics s) 16 128 → Post tb e args s (.returned v) u) :
    ArmFor flags0 classFile x code maxLocals ret World_1 tables_1 room_1 Calls_1 rest_1 Pre_1 Post := by
  intro l hfl _ _ p e ha hc hk s m args below hf hA hF happ hP
  obtain ⟨hcalls, hrest, hpre⟩ := hP
  obtain ⟨-, -, -, hnamed, -, -, -, hat⟩ := (Spec.applies_iff hf).mp happ
  obtain ⟨hg, hn⟩ := and_e (Cond.before_iff.mp (show (Jvm.Cond.and given_1 narrow_1).before args s = true from hpre))
  obtain ⟨g1, g2⟩ := and_e hg
  obtain ⟨g3, g4⟩ := and_e g2
  obtain ⟨g5, g6⟩ := and_e g4
  obtain ⟨w0, w1, w2, rfl⟩ : ∃ w0 w1 w2 : Value, args = #[w0, w1, w2] := by
    have hs : args.size = 3 := by simpa [Cond.value, given_1] using g1
    obtain ⟨L⟩ := args
    match L, hs with
    | [w0, w1, w2], _ => exact ⟨w0, w1, w2, rfl⟩
  have hw := fun d (hd : d ∈ tables_1) => atoms_spec (ws := Jvm.Cond.code x code maxLocals ret :: tables_1) hat d (List.mem_cons_of_mem _ hd)
  obtain ⟨i0, ei0⟩ := is_v g3
  obtain rfl : w0 = (.int i0) := Option.some.inj ei0
  obtain ⟨i1, ei1⟩ := is_v g5
  obtain rfl : w1 = (.int i1) := Option.some.inj ei1
  obtain ⟨i2, ei2⟩ := is_v g6
  obtain rfl : w2 = (.int i2) := Option.some.inj ei2
  obtain ⟨n, o, h1, h2, h3, _, L, rfl, ⟨rfl, N⟩, hq⟩ := own_r0 l s _ hw tables_1 i0 i1 i2 s.heap s.heap.size (Nat.le_refl _) p e ha hc hk s m _ below hf ((Spec.applies_iff_loose hf).mp happ).1 ⟨rfl, State.Warmed39.refl s, rfl⟩ trivial
  refine ⟨n, _, h1, h2, h3, hpost _ _ _ _ _ _ ⟨Cond.after_iff.mpr rfl, Cond.after_iff.mpr (eq_i res_at (Term.int_eval (1)) rfl), trivial⟩ ⟨hq.1, hq.2.1, (hq.2.2.sift fun y hy => Or.inr (N y hy)).mono (by decide) (by decide)⟩⟩
theorem main_1_1 : Claimed_1_1 := own_comes fun _ _ _ _ _ _ h hF => ⟨h.1, hF⟩
theorem main_1_2 : Claimed_1_2 := own_comes fun _ _ _ _ _ _ h hF => ⟨h.2.1, hF⟩
end Jvm.Pilot.@@N@@
namespace Jvm.Pilot.@@N@@
open Jvm Jvm.ClassFile Sem Op Lib Jvm.Free Jvm.Stand Jvm.Pilot.@@N@@.Jvm.D
/-! MADE BY PROGRAM (witnessworld.py) out of the Statement's table words and the real class files: 10 classes; the members and pool entries that the words name. The judged class is class 1, her method 3. -/
namespace start1
open Jvm.ClassFile
def u (s : String) : CpInfo := .utf8 (stringToUtf16 s)
/-- a pool by its gaps: so many unusable entries, then the entry; so many at the end -/
def gap : Nat → List CpInfo → List CpInfo
  | 0, r => r
  | n + 1, r => .unusable :: gap n r
def poolList (es : List (Nat × CpInfo)) (last : Nat) : List CpInfo := es.foldr (fun e r => gap e.1 (e.2 :: r)) (gap last [])
def pool (es : List (Nat × CpInfo)) (last : Nat) : Array CpInfo := ⟨poolList es last⟩
def fileOf (pool : Array CpInfo) (this : Nat) (attrs : Array Attribute := #[]) (ms : Array MethodInfo := #[]) (fl : Nat := 33) (sup : Nat := 0) (ifs : Array Nat := #[]) (fds : Array FieldInfo := #[]) : ClassFile where
  minorVersion := 0
  majorVersion := 65
  constantPool := pool
  accessFlags := fl
  thisClass := this
  superClass := sup
  interfaces := ifs
  fields := fds
  methods := ms
  attributes := attrs
def plain (name : String) (sup : Option ClassId) : Class where
  name := name
  kind := .ordinary
  loader := none
  accessFlags := 33
  super := sup
  interfaces := #[]
  cf := none
  fields := #[]
  methods := #[]
  instanceTypes := #[]
  staticTypes := #[]
  resolved := #[]
  callSites := []
  init := .initialized
  statics := none
  mirror := none

def pool0 : Array CpInfo := pool [(5, u "<init>"), (0, u "()V"), (1, .class_ 10), (1, u "java/lang/Object")] 113

def k0m0 : Method := { name := "<init>", desc := "()V", sig := { parameters := [], returnType := none }, accessFlags := 1, code := none }
/-- java/lang/Object -/
def k0 : Class := { plain "java/lang/Object" none with
  accessFlags := 33
  interfaces := #[]
  cf := some (fileOf pool0 8 #[] #[{ accessFlags := 1, nameIndex := 5, descriptorIndex := 6, attributes := #[] }] 33 0 #[] #[])
  fields := #[]
  methods := #[k0m0]
  instanceTypes := #[]
  staticTypes := #[]
  resolved := Array.replicate 124 none
  statics := none }

def pool1 : Array CpInfo := pool [(2, .class_ 4), (1, u "java/lang/Object"), (0, u "<init>"), (0, u "()V"), (0, .methodref 8 9), (0, .class_ 10), (0, .nameAndType 11 12), (0, u "com/example/geodesic/geodesic/graph/ShortestPathsWalkPinLaw"), (0, u "s"), (0, u "(III)I"), (0, .methodref 8 14), (0, .nameAndType 15 12), (0, u "img"), (0, .methodref 17 18), (0, .class_ 19), (0, .nameAndType 20 21), (0, u "com/example/geodesic/geodesic/graph/ShortestPaths"), (0, u "walk"), (0, u "([II)[I"), (3, u "law"), (0, u "(III)Z")] 4

def k1m0 : Method := { name := "<init>", desc := "()V", sig := { parameters := [], returnType := none }, accessFlags := 1, code := none }
def k1c1 : Code := { maxStack := 2, maxLocals := 3, code := method_2_code, exceptionTable := #[], attributes := #[] }
def k1m1 : Method := { name := "s", desc := "(III)I", sig := { parameters := [.int, .int, .int], returnType := some .int }, accessFlags := 10, code := some k1c1 }
def k1c2 : Code := { maxStack := 3, maxLocals := 3, code := method_3_code, exceptionTable := #[], attributes := #[] }
def k1m2 : Method := { name := "img", desc := "(III)I", sig := { parameters := [.int, .int, .int], returnType := some .int }, accessFlags := 10, code := some k1c2 }
def k1c3 : Code := { maxStack := 5, maxLocals := 15, code := code, exceptionTable := #[], attributes := #[] }
def k1m3 : Method := { name := "law", desc := "(III)Z", sig := { parameters := [.int, .int, .int], returnType := some .boolean }, accessFlags := 9, code := some k1c3 }
/-- com/example/geodesic/geodesic/graph/ShortestPathsWalkPinLaw -/
def k1 : Class := { plain "com/example/geodesic/geodesic/graph/ShortestPathsWalkPinLaw" (some 0) with
  accessFlags := 49
  interfaces := #[]
  cf := some (fileOf pool1 8 #[] #[{ accessFlags := 1, nameIndex := 5, descriptorIndex := 6, attributes := #[] }, { accessFlags := 10, nameIndex := 11, descriptorIndex := 12, attributes := #[] }, { accessFlags := 10, nameIndex := 15, descriptorIndex := 12, attributes := #[] }, { accessFlags := 9, nameIndex := 25, descriptorIndex := 26, attributes := #[] }] 49 2 #[] #[])
  fields := #[]
  methods := #[k1m0, k1m1, k1m2, k1m3]
  instanceTypes := #[]
  staticTypes := #[]
  resolved := Array.replicate 31 none
  statics := none }

def pool2 : Array CpInfo := pool [(1, .class_ 2), (0, u "com/example/geodesic/geodesic/graph/PathSearch"), (0, .class_ 4), (0, u "java/lang/Object")] 10

/-- com/example/geodesic/geodesic/graph/PathSearch -/
def k2 : Class := { plain "com/example/geodesic/geodesic/graph/PathSearch" (some 0) with
  accessFlags := 1537
  interfaces := #[]
  cf := some (fileOf pool2 1 #[] #[] 1537 3 #[] #[])
  fields := #[]
  methods := #[]
  instanceTypes := #[]
  staticTypes := #[]
  resolved := Array.replicate 15 none
  statics := none }

def pool3 : Array CpInfo := pool [(2, .class_ 4), (1, u "java/lang/Object"), (3, .class_ 10), (1, u "com/example/geodesic/geodesic/graph/ShortestPaths"), (0, u "graph"), (0, u "Lcom/example/geodesic/geodesic/graph/Adjacency;"), (8, u "cost"), (0, u "[D"), (2, u "previous"), (0, u "[I"), (2, u "place"), (2, u "heap"), (2, u "keys"), (2, u "touched"), (7, u "pending"), (0, u "Ljava/util/BitSet;"), (5, u "pendingCount"), (0, u "I"), (32, u "walk"), (0, u "([II)[I"), (17, u "touchedCount"), (2, u "heapSize"), (37, .class_ 149), (1, u "com/example/geodesic/geodesic/graph/ShortestPaths$Lowering"), (9, .class_ 160), (0, u "com/example/geodesic/geodesic/graph/PathSearch"), (0, u "NONE"), (2, u "NOT_QUEUED")] 16

def k3c0 : Code := { maxStack := 3, maxLocals := 6, code := prog_17_method_8_code, exceptionTable := #[], attributes := #[] }
def k3m0 : Method := { name := "walk", desc := "([II)[I", sig := { parameters := [(.array .int), .int], returnType := some (.array .int) }, accessFlags := 8, code := some k3c0 }
/-- com/example/geodesic/geodesic/graph/ShortestPaths -/
def k3 : Class := { plain "com/example/geodesic/geodesic/graph/ShortestPaths" (some 0) with
  accessFlags := 49
  interfaces := #[2]
  cf := some (fileOf pool3 8 #[.nestMembers #[147]] #[{ accessFlags := 8, nameIndex := 87, descriptorIndex := 88, attributes := #[] }] 49 2 #[159] #[{ accessFlags := 24, nameIndex := 161, descriptorIndex := 54, attributes := #[] }, { accessFlags := 26, nameIndex := 164, descriptorIndex := 54, attributes := #[] }, { accessFlags := 18, nameIndex := 11, descriptorIndex := 12, attributes := #[] }, { accessFlags := 18, nameIndex := 21, descriptorIndex := 22, attributes := #[] }, { accessFlags := 18, nameIndex := 25, descriptorIndex := 26, attributes := #[] }, { accessFlags := 18, nameIndex := 29, descriptorIndex := 26, attributes := #[] }, { accessFlags := 18, nameIndex := 32, descriptorIndex := 26, attributes := #[] }, { accessFlags := 18, nameIndex := 35, descriptorIndex := 22, attributes := #[] }, { accessFlags := 2, nameIndex := 109, descriptorIndex := 54, attributes := #[] }, { accessFlags := 18, nameIndex := 38, descriptorIndex := 26, attributes := #[] }, { accessFlags := 2, nameIndex := 106, descriptorIndex := 54, attributes := #[] }, { accessFlags := 18, nameIndex := 46, descriptorIndex := 47, attributes := #[] }, { accessFlags := 2, nameIndex := 53, descriptorIndex := 54, attributes := #[] }])
  fields := #[{ name := "NONE", type := .int, accessFlags := 24, slot := 0, constantValue := 0 }, { name := "NOT_QUEUED", type := .int, accessFlags := 26, slot := 1, constantValue := 0 }, { name := "graph", type := (.object "com/example/geodesic/geodesic/graph/Adjacency"), accessFlags := 18, slot := 0, constantValue := 0 }, { name := "cost", type := (.array .double), accessFlags := 18, slot := 1, constantValue := 0 }, { name := "previous", type := (.array .int), accessFlags := 18, slot := 2, constantValue := 0 }, { name := "place", type := (.array .int), accessFlags := 18, slot := 3, constantValue := 0 }, { name := "heap", type := (.array .int), accessFlags := 18, slot := 4, constantValue := 0 }, { name := "keys", type := (.array .double), accessFlags := 18, slot := 5, constantValue := 0 }, { name := "heapSize", type := .int, accessFlags := 2, slot := 6, constantValue := 0 }, { name := "touched", type := (.array .int), accessFlags := 18, slot := 7, constantValue := 0 }, { name := "touchedCount", type := .int, accessFlags := 2, slot := 8, constantValue := 0 }, { name := "pending", type := (.object "java/util/BitSet"), accessFlags := 18, slot := 9, constantValue := 0 }, { name := "pendingCount", type := .int, accessFlags := 2, slot := 10, constantValue := 0 }]
  methods := #[k3m0]
  instanceTypes := #[(.object "com/example/geodesic/geodesic/graph/Adjacency"), (.array .double), (.array .int), (.array .int), (.array .int), (.array .double), .int, (.array .int), .int, (.object "java/util/BitSet"), .int]
  staticTypes := #[.int, .int]
  resolved := Array.replicate 181 none
  statics := none }

def pool4 : Array CpInfo := pool [(1, u "java/lang/Cloneable"), (0, .class_ 1), (0, u "java/lang/Object"), (0, .class_ 3)] 3

/-- java/lang/Cloneable -/
def k4 : Class := { plain "java/lang/Cloneable" (some 0) with
  accessFlags := 1537
  interfaces := #[]
  cf := some (fileOf pool4 2 #[] #[] 1537 4 #[] #[])
  fields := #[]
  methods := #[]
  instanceTypes := #[]
  staticTypes := #[]
  resolved := Array.replicate 8 none
  statics := none }

def pool5 : Array CpInfo := pool [(1, u "java/io/Serializable"), (0, .class_ 1), (0, u "java/lang/Object"), (0, .class_ 3)] 3

/-- java/io/Serializable -/
def k5 : Class := { plain "java/io/Serializable" (some 0) with
  accessFlags := 1537
  interfaces := #[]
  cf := some (fileOf pool5 2 #[] #[] 1537 4 #[] #[])
  fields := #[]
  methods := #[]
  instanceTypes := #[]
  staticTypes := #[]
  resolved := Array.replicate 8 none
  statics := none }

/-- the primitive byte -/
def k6 : Class := { plain "byte" none with kind := .primitive 'B', accessFlags := 0x411 }
/-- [B -/
def k7 : Class := { plain "[B" (some 0) with kind := .array 6 .byte, interfaces := #[4, 5], accessFlags := 1041 }

/-- the primitive int -/
def k8 : Class := { plain "int" none with kind := .primitive 'I', accessFlags := 0x411 }
/-- [I -/
def k9 : Class := { plain "[I" (some 0) with kind := .array 8 .int, interfaces := #[4, 5], accessFlags := 1041 }

def heap : Heap := #[]
def classes : Array Class := #[k0, k1, k2, k3, k4, k5, k6, k7, k8, k9]
def interned : List (Array UInt16 × Addr) := []
def slotsUsed : Nat := 0
def theMethod : MethodId := ⟨1, 3⟩
def args0 : Array Value := #[.int 5, .int 5, .int 5]
def aboutOver (below : List Frame) : State where
  vm := { classes := classes, interned := interned.toArray }
  heap := heap
  slotsUsed := slotsUsed
  threads := #[{ frames := .invoking theMethod args0 :: below }]
def below0 : List Frame := [.native { method := ⟨0, 0⟩, args := #[] }]
def about1 : State := aboutOver below0
def p0 : Program := .bare "" "" ""
def e0 : Env := launch0.env 0 0 0
theorem w_frames : about1.frames = Frame.invoking theMethod args0 :: below0 := rfl
set_option maxRecDepth 65536 in
theorem w_args : argsFit about1.vm theMethod args0 = true := by decide +kernel
set_option maxRecDepth 65536 in
theorem w_heap : heapFits about1 = true := by decide +kernel
set_option maxRecDepth 65536 in
theorem w_runnable : about1.curStatus? = some .runnable := by decide +kernel
set_option maxRecDepth 65536 in
theorem w_alone : about1.alone = true := by decide +kernel
set_option maxRecDepth 65536 in
theorem w_named : about1.methodNamed? x = some theMethod := by decide +kernel
set_option maxRecDepth 65536 in
theorem w_hears : about1.hears theMethod below0 = true := by decide +kernel
set_option maxRecDepth 65536 in
theorem w_ripe : about1.ripe theMethod args0 below0 = true := by decide +kernel
theorem w_running : about1.status = .running := rfl
set_option maxRecDepth 65536 in
theorem w_room : about1.hasRoom e0.platform room_1 = true :=
  launch0.hasRoom_least _ room_1 (by decide +kernel) (by decide +kernel) (by decide +kernel) (by decide +kernel) (by decide +kernel) (by decide +kernel)
theorem allAtoms_all (ts : List Jvm.Cond) (a : Array Jvm.Value) (st : Jvm.State) : (allAtoms ts).before a st = ts.all (fun c => c.before a st) := by
  induction ts with
  | nil => rfl
  | cons c t ih =>
    show (Jvm.Cond.and c (allAtoms t)).before a st = _
    rw [Jvm.Cond.before_and, ih, List.all_cons]
def words1 : List Jvm.Cond := Jvm.Cond.code x code maxLocals ret :: tables_1
/-- a 'code' word, met by the world's own term for the bytes: nothing is compared byte by byte -/
theorem code_word {y : MethodName} {bytes : ByteArray} {mx : Nat} {rt : Option FieldType} {a : Array Value} {s : State} {m : MethodId} {meth : Method} {c : Code} (h1 : s.methodNamed? y = some m) (h2 : s.vm.method? m = some meth) (h3 : meth.code = some c) (h4 : c.code = bytes)
    (h5 : (c.maxLocals == mx && c.exceptionTable.isEmpty && decide (c.maxStack ≤ mostOperands) && decide (meth.sig.returnType = rt) && !meth.locks && decide (parseMethodDescriptor y.desc = some meth.sig)) = true) : (Jvm.Cond.code y bytes mx rt).before a s = true := by
  simp only [Bool.and_eq_true, beq_iff_eq, Bool.not_eq_true', decide_eq_true_eq] at h5
  obtain ⟨⟨⟨⟨⟨g1, g2⟩, g3⟩, g4⟩, g5⟩, g6⟩ := h5
  simp [Cond.before, Cond.holds, Cond.value, h1, h2, h3, h4, g1, g2, g3, g4, g5, g6]
def isCode : Jvm.Cond → Bool
  | .code _ _ _ _ => true
  | _ => false
theorem all_split {L : List Jvm.Cond} {P : Jvm.Cond → Bool} (h1 : L.all (fun c => isCode c || P c) = true) (h2 : ∀ c ∈ L.filter isCode, P c = true) : L.all P = true := by
  refine List.all_eq_true.mpr fun c hc => ?_
  have h := List.all_eq_true.mp h1 c hc
  rcases Bool.eq_false_or_eq_true (isCode c) with hi | hi
  · exact h2 c (List.mem_filter.mpr ⟨hc, hi⟩)
  · simpa [hi] using h
set_option maxRecDepth 65536 in
theorem w_c0 : (Jvm.Cond.code x code maxLocals ret).before args0 about1 = true := code_word (m := ⟨1, 3⟩) (meth := k1m3) (c := k1c3) (by decide +kernel) rfl rfl rfl (by decide +kernel)
set_option maxRecDepth 65536 in
theorem w_c1 : (Jvm.Cond.code ({ cls := "com/example/geodesic/geodesic/graph/ShortestPathsWalkPinLaw", name := "s", desc := "(III)I" } : Jvm.MethodName) method_2_code (3 : Nat) (Option.some Jvm.ClassFile.FieldType.int)).before args0 about1 = true := code_word (m := ⟨1, 1⟩) (meth := k1m1) (c := k1c1) (by decide +kernel) rfl rfl rfl (by decide +kernel)
set_option maxRecDepth 65536 in
theorem w_c2 : (Jvm.Cond.code ({ cls := "com/example/geodesic/geodesic/graph/ShortestPathsWalkPinLaw", name := "img", desc := "(III)I" } : Jvm.MethodName) method_3_code (3 : Nat) (Option.some Jvm.ClassFile.FieldType.int)).before args0 about1 = true := code_word (m := ⟨1, 2⟩) (meth := k1m2) (c := k1c2) (by decide +kernel) rfl rfl rfl (by decide +kernel)
set_option maxRecDepth 65536 in
theorem w_c3 : (Jvm.Cond.code ({ cls := "com/example/geodesic/geodesic/graph/ShortestPaths", name := "walk", desc := "([II)[I" } : Jvm.MethodName) prog_17_method_8_code (6 : Nat) (Option.some (Jvm.ClassFile.FieldType.array Jvm.ClassFile.FieldType.int))).before args0 about1 = true := code_word (m := ⟨3, 0⟩) (meth := k3m0) (c := k3c0) (by decide +kernel) rfl rfl rfl (by decide +kernel)
def codes1 : List Jvm.Cond := [Jvm.Cond.code x code maxLocals ret, Jvm.Cond.code ({ cls := "com/example/geodesic/geodesic/graph/ShortestPathsWalkPinLaw", name := "s", desc := "(III)I" } : Jvm.MethodName) method_2_code (3 : Nat) (Option.some Jvm.ClassFile.FieldType.int), Jvm.Cond.code ({ cls := "com/example/geodesic/geodesic/graph/ShortestPathsWalkPinLaw", name := "img", desc := "(III)I" } : Jvm.MethodName) method_3_code (3 : Nat) (Option.some Jvm.ClassFile.FieldType.int), Jvm.Cond.code ({ cls := "com/example/geodesic/geodesic/graph/ShortestPaths", name := "walk", desc := "([II)[I" } : Jvm.MethodName) prog_17_method_8_code (6 : Nat) (Option.some (Jvm.ClassFile.FieldType.array Jvm.ClassFile.FieldType.int))]
set_option maxRecDepth 65536 in
theorem codes_eq : words1.filter isCode = codes1 := rfl
theorem w_codes : ∀ c ∈ words1.filter isCode, c.before args0 about1 = true := by
  rw [codes_eq]
  intro c hc
  simp only [codes1, List.mem_cons, List.not_mem_nil, or_false] at hc
  rcases hc with rfl | rfl | rfl | rfl
  · exact w_c0
  · exact w_c1
  · exact w_c2
  · exact w_c3
set_option maxRecDepth 65536 in
theorem w_t1 : words1.all (fun c => isCode c || c.before args0 about1) = true := by decide +kernel
theorem w_tables : (allAtoms (Jvm.Cond.code x code maxLocals ret :: tables_1)).before args0 about1 = true := by
  rw [allAtoms_all]
  show words1.all (fun c => c.before args0 about1) = true
  refine all_split ?_ w_codes
  rw [w_t1]
set_option maxRecDepth 65536 in
theorem w_case : (Jvm.Cond.and given_1 narrow_1).before args0 about1 = true := by decide +kernel
theorem w_applies : (headSpec (Jvm.Cond.code x code maxLocals ret :: tables_1) room_1).applies x e0.platform about1 = true :=
  (Spec.applies_iff w_frames).mpr ⟨w_running, w_runnable, w_alone, w_named, w_hears, w_ripe, w_room, w_tables⟩
theorem atStart : AtStart classFile x code maxLocals ret World_1 tables_1 room_1 Calls_1 rest_1 Pre_1 launch0 p0 e0 about1 theMethod args0 below0 :=
  ⟨lists_1, trivial, launch0.admits_env _ _ _, launch0.least_env, fairChoices_fair.cas, fairChoices_fair.clock, w_frames, w_args, w_heap, w_applies, trivial, trivial, w_case⟩
end start1
theorem witness_1 : WitnessClaimed_1 := ⟨start1.p0, start1.e0, start1.about1, start1.theMethod, start1.args0, start1.below0, start1.atStart⟩
end Jvm.Pilot.@@N@@
