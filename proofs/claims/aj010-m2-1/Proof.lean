import JvmDerived
import JvmDerived.Pilot.@@N@@Statement
import JvmDerived.Pilot.@@N@@Code
set_option linter.unusedVariables false
set_option linter.unusedSimpArgs false
@@BLOCK:NumsL.lean.txt@@
namespace Jvm.Pilot.@@N@@
open Jvm Jvm.ClassFile Sem Op Lib Jvm.Free Jvm.Stand Jvm.LawKit Jvm.RoadKit Bundle Jvm.Pilot.@@N@@.Jvm.D

/-! the walk's own small kit: from the frame g over the state T the body comes to its end, with Φ -/
def own_Go (p : Program) (e : Env) (below : List Frame) (T : State) (g : JFrame) (Φ : Outcome → State → Prop) : Prop :=
  ∃ s₂ o, Steps p.tables e below (T.setTop g) s₂ ∧ s₂.status = .running ∧ Ended s₂ below o ∧ Φ o s₂
def own_Fin (s : State) (Q : Option Value → Heap → List Loc → Prop) (k j : Nat) (o : Outcome) (U' : State) : Prop :=
  ∃ v L, o = .returned v ∧ Q v U'.heap L ∧ FrameEnd s o U' L k j
theorem own_by {p : Program} {e : Env} {below : List Frame} {T T' : State} {g g' : JFrame} {Φ : Outcome → State → Prop}
    (h : ∀ t, Steps p.tables e below (T'.setTop g') t → Steps p.tables e below (T.setTop g) t) (k : own_Go p e below T' g' Φ) : own_Go p e below T g Φ := by
  obtain ⟨s₂, o, h1, h2⟩ := k
  exact ⟨s₂, o, h _ h1, h2⟩
theorem own_start {p : Program} {e : Env} {below : List Frame} {s T : State} {g g' : JFrame} {Q : Option Value → Heap → List Loc → Prop} {k j : Nat} (hg : g = g')
    (h : own_Go p e below T g' (own_Fin s Q k j)) : ∃ s₂ o, Steps p.tables e below (T.setTop g) s₂ ∧ s₂.status = .running ∧ Ended s₂ below o ∧ ∃ v L, o = .returned v ∧ Q v s₂.heap L ∧ FrameEnd s o s₂ L k j := by
  subst hg
  exact h
section OwnRet
variable {p : Program} {l : Launch} {e : Env} {R : Room} {s : State} {m : MethodId} {args : Array Value} {below : List Frame} {meth : Method} {c : Code} {T : State} {locs : List Loc} {cells slots : Nat} {Q : Option Value → Heap → List Loc → Prop} {k j pc : Nat} {Ls : Array Slot} {rest : List Value}
theorem own_retN {t : FieldType} (ht : t = .boolean ∨ t = .byte ∨ t = .char ∨ t = .short) (X : Stand p l e R s m args below meth c T locs cells slots) (hx : p.tables.exec = Jvm.exec) (hret : meth.sig.returnType = some t) (hlk : meth.locks = false) {z : Int32} (hd : decode c.code pc = .ok (.ireturn, 1))
    (hz : nar t z = z) (hk : cells ≤ k) (hj : slots ≤ j) (q : Q (some (.int z)) T.heap locs) : own_Go p e below T (mkF m pc Ls (.int z :: rest)) (own_Fin s Q k j) := by
  obtain ⟨fs, hr, hrun, hended, hW, hsame⟩ := X.leave (v := some (.int z)) (fun h => by rw [hret] at h; cases h)
  exact ⟨_, _, retN X hx hret ht hd (by rw [hz]; exact hr), hrun, hended, _, _, rfl, q, ⟨_, rfl⟩, hW, hsame.mono hk hj⟩
theorem own_retZ (X : Stand p l e R s m args below meth c T locs cells slots) (hx : p.tables.exec = Jvm.exec) (hret : meth.sig.returnType = some .boolean) (hlk : meth.locks = false) {z : Int32} (hd : decode c.code pc = .ok (.ireturn, 1))
    (hz : nar .boolean z = z) (hk : cells ≤ k) (hj : slots ≤ j) (q : Q (some (.int z)) T.heap locs) : own_Go p e below T (mkF m pc Ls (.int z :: rest)) (own_Fin s Q k j) := own_retN (Or.inl rfl) X hx hret hlk hd hz hk hj q
theorem own_retI (X : Stand p l e R s m args below meth c T locs cells slots) (hx : p.tables.exec = Jvm.exec) (hret : meth.sig.returnType = some .int) (hlk : meth.locks = false) {z : Int32} (hd : decode c.code pc = .ok (.ireturn, 1))
    (hk : cells ≤ k) (hj : slots ≤ j) (q : Q (some (.int z)) T.heap locs) : own_Go p e below T (mkF m pc Ls (.int z :: rest)) (own_Fin s Q k j) := by
  obtain ⟨fs, hr, hrun, hended, hW, hsame⟩ := X.leave (v := some (.int z)) (fun h => by rw [hret] at h; cases h)
  exact ⟨_, _, retOut X hx hret rfl (Or.inl ⟨rfl, Or.inl rfl, z, rfl⟩) hd hr, hrun, hended, _, _, rfl, q, ⟨_, rfl⟩, hW, hsame.mono hk hj⟩
theorem own_retJ (X : Stand p l e R s m args below meth c T locs cells slots) (hx : p.tables.exec = Jvm.exec) (hret : meth.sig.returnType = some .long) (hlk : meth.locks = false) {z : Int64} (hd : decode c.code pc = .ok (.lreturn, 1))
    (hk : cells ≤ k) (hj : slots ≤ j) (q : Q (some (.long z)) T.heap locs) : own_Go p e below T (mkF m pc Ls (.long z :: rest)) (own_Fin s Q k j) := by
  obtain ⟨fs, hr, hrun, hended, hW, hsame⟩ := X.leave (v := some (.long z)) (fun h => by rw [hret] at h; cases h)
  exact ⟨_, _, retOut X hx hret rfl (Or.inr (Or.inl ⟨rfl, rfl, z, rfl⟩)) hd hr, hrun, hended, _, _, rfl, q, ⟨_, rfl⟩, hW, hsame.mono hk hj⟩
theorem own_retA {t : FieldType} (X : Stand p l e R s m args below meth c T locs cells slots) (hx : p.tables.exec = Jvm.exec) (hret : meth.sig.returnType = some t) (hlk : meth.locks = false) {z : Value} (hd : decode c.code pc = .ok (.areturn, 1))
    (ht : t.isReference = true) (hz : z.isRef = true) (hn : narrow t z = z) (hk : cells ≤ k) (hj : slots ≤ j) (q : Q (some z) T.heap locs) : own_Go p e below T (mkF m pc Ls (z :: rest)) (own_Fin s Q k j) := by
  obtain ⟨fs, hr, hrun, hended, hW, hsame⟩ := X.leave (v := some z) (fun h => by rw [hret] at h; cases h)
  exact ⟨_, _, retOut X hx hret hn (Or.inr (Or.inr (Or.inr (Or.inr ⟨rfl, ht, hz⟩)))) hd hr, hrun, hended, _, _, rfl, q, ⟨_, rfl⟩, hW, hsame.mono hk hj⟩
theorem own_retV (X : Stand p l e R s m args below meth c T locs cells slots) (hx : p.tables.exec = Jvm.exec) (hret : meth.sig.returnType = none) (hlk : meth.locks = false) (hd : decode c.code pc = .ok (.return_, 1))
    (hk : cells ≤ k) (hj : slots ≤ j) (q : Q none T.heap locs) : own_Go p e below T (mkF m pc Ls []) (own_Fin s Q k j) := by
  obtain ⟨fs, hr, hrun, hended, hW, hsame⟩ := X.leave (v := none) (fun _ => rfl)
  exact ⟨_, _, X.returnOut hx hret hd hr, hrun, hended, _, _, rfl, q, ⟨_, rfl⟩, hW, hsame.mono hk hj⟩
theorem own_lrem_eq (x y : Int64) : x - x / y * y = x % y := Int64.toInt_inj.mp (by rw [Jvm.Kit.i64_rem, Int64.toInt_mod])
theorem own_lrem {g : JFrame} {target : State} (X : Stand p l e R s m args below meth c T locs cells slots) (hx : p.tables.exec = Jvm.exec) (hg : g.method = m) {x y : Int64} {rest : List Value} (hd : decode c.code g.pc = .ok (.lrem, 1)) (hs : g.stack = .long y :: .long x :: rest) (hy : y ≠ 0)
    (hr : Steps p.tables e below (T.setTop { g with pc := g.pc + 1, stack := .long (x % y) :: rest }) target) : Steps p.tables e below (T.setTop g) target :=
  XS.lrem X.here hx hg hd hs hy (by rw [own_lrem_eq x y]; exact hr)
end OwnRet
/-! an array: its length, and what each place holds -/
abbrev own_At (j : Int32) (k : Nat) : Prop := ¬ j < 0 ∧ j.toNatClampNeg = k
def own_upd (f : Nat → Value) (k : Nat) (v : Value) : Nat → Value := fun i => if i = k then v else f i
theorem own_upd_hit {f : Nat → Value} {k i : Nat} {v : Value} (h : i = k) : own_upd f k v i = v := if_pos h
theorem own_upd_miss {f : Nat → Value} {k i : Nat} {v : Value} (h : ¬ i = k) : own_upd f k v i = f i := if_neg h
def own_Av (Z : State) (h : Heap) (a : Addr) (ty : FieldType) (n : Nat) (f : Nat → Value) : Prop := ∃ c : Cell, Arr Z h a c ty ∧ c.slots.size = n ∧ ∀ i, i < n → c.slots[i]? = some (f i)
section OwnArr
variable {Z : State} {h h' : Heap} {a b : Addr} {ty : FieldType} {n k sl : Nat} {f : Nat → Value} {v : Value} {ws : List Addr}
theorem own_Av.ext (F : own_Av Z h a ty n f) (E : Ext h h') : own_Av Z h' a ty n f := by obtain ⟨c, A, r⟩ := F; exact ⟨c, A.ext E, r⟩
theorem own_Av.other (F : own_Av Z h b ty n f) (W : Wr h h' a sl v) (q : b ≠ a) : own_Av Z h' b ty n f := by obtain ⟨c, A, r⟩ := F; exact ⟨c, A.other W q, r⟩
theorem own_Av.keep (F : own_Av Z h a ty n f) (K : Keep h h' ws) (q : a ∉ ws) : own_Av Z h' a ty n f := by obtain ⟨c, A, r⟩ := F; exact ⟨c, ⟨K.2.1 a c A.1 q, A.2⟩, r⟩
theorem own_Av.lt (F : own_Av Z h a ty n f) : a < h.size := by obtain ⟨c, A, -⟩ := F; exact A.lt
theorem own_Av.ofnew {z : Int32} {kc : ClassId} {d : Value} (A : Arr Z h a (newA kc ty z) ty) (hn : z.toNatClampNeg = n) (hd : defaultValue ty = d) : own_Av Z h a ty n (fun _ => d) := by
  subst hn hd
  exact ⟨_, A, sz_new _ _ _, fun i hi => by simp [newA, hi]⟩
theorem own_Av.set (F : own_Av Z h a ty n f) (W : Wr h h' a k v) : own_Av Z h' a ty n (own_upd f k v) := by
  obtain ⟨c, A, S, H⟩ := F
  refine ⟨_, A.same W, by rw [sz_set]; exact S, fun i hi => ?_⟩
  by_cases q : i = k
  · subst q
    rw [own_upd_hit rfl]
    simp [Cell.setSlot, S, hi]
  · rw [own_upd_miss q, ← H i hi]
    exact Array.getElem?_setIfInBounds_ne fun u => q u.symm
theorem own_Av.cong {g : Nat → Value} {n' : Nat} (F : own_Av Z h a ty n f) (hn : n = n') (q : ∀ i, i < n → f i = g i) : own_Av Z h a ty n' g := by
  subst hn
  obtain ⟨c, A, S, H⟩ := F
  exact ⟨c, A, S, fun i hi => by rw [← q i hi]; exact H i hi⟩
theorem own_in {j : Int32} (hj : own_At j k) (hk : k < n) {c : Cell} (S : c.slots.size = n) : ¬ (j < 0 ∨ c.slots.size ≤ j.toNatClampNeg) := by
  intro q
  rcases q with q | q
  · exact hj.1 q
  · rw [hj.2, S] at q; omega
variable {p : Program} {l : Launch} {e : Env} {R : Room} {s : State} {m : MethodId} {args : Array Value} {below : List Frame} {meth : Method} {c : Code} {T : State} {locs : List Loc} {cells slots : Nat}
theorem own_ldI (X : Stand p l e R s m args below meth c T locs cells slots) (hx : p.tables.exec = Jvm.exec) (hZ : Z.Warmed39 s.vm) (eT : T.heap = h) (F : own_Av Z h a .int n f) {j : Int32} (hj : own_At j k) (hk : k < n) (hv : f k = v)
    {g : JFrame} (hg : g.method = m) {rest : List Value} (hs : g.stack = .int j :: .ref a :: rest) (hd : decode c.code g.pc = .ok (.iaload, 1)) (t : State)
    (hr : Steps p.tables e below (T.setTop { g with pc := g.pc + 1, stack := v :: rest }) t) : Steps p.tables e below (T.setTop g) t := by
  obtain ⟨cl, A, S, H⟩ := F
  exact X.iaload hx (by rw [eT]; exact A.1) (State.isArrayOf_alike hZ.alike A.2.1) A.2.2 (own_in hj hk S) (by rw [hj.2, H k hk, hv]) hg hs hd t hr
theorem own_ldJ (X : Stand p l e R s m args below meth c T locs cells slots) (hx : p.tables.exec = Jvm.exec) (hZ : Z.Warmed39 s.vm) (eT : T.heap = h) (F : own_Av Z h a .long n f) {j : Int32} (hj : own_At j k) (hk : k < n) (hv : f k = v)
    {g : JFrame} (hg : g.method = m) {rest : List Value} (hs : g.stack = .int j :: .ref a :: rest) (hd : decode c.code g.pc = .ok (.laload, 1)) (t : State)
    (hr : Steps p.tables e below (T.setTop { g with pc := g.pc + 1, stack := v :: rest }) t) : Steps p.tables e below (T.setTop g) t := by
  obtain ⟨cl, A, S, H⟩ := F
  exact X.laload hx (by rw [eT]; exact A.1) (State.isArrayOf_alike hZ.alike A.2.1) A.2.2 (own_in hj hk S) (by rw [hj.2, H k hk, hv]) hg hs hd t hr
theorem own_ldS (X : Stand p l e R s m args below meth c T locs cells slots) (hx : p.tables.exec = Jvm.exec) (hZ : Z.Warmed39 s.vm) (eT : T.heap = h) (F : own_Av Z h a .short n f) {j : Int32} (hj : own_At j k) (hk : k < n) (hv : f k = v)
    {g : JFrame} (hg : g.method = m) {rest : List Value} (hs : g.stack = .int j :: .ref a :: rest) (hd : decode c.code g.pc = .ok (.saload, 1)) (t : State)
    (hr : Steps p.tables e below (T.setTop { g with pc := g.pc + 1, stack := v :: rest }) t) : Steps p.tables e below (T.setTop g) t := by
  obtain ⟨cl, A, S, H⟩ := F
  exact X.saload hx (by rw [eT]; exact A.1) (State.isArrayOf_alike hZ.alike A.2.1) A.2.2 (own_in hj hk S) (by rw [hj.2, H k hk, hv]) hg hs hd t hr
theorem own_ldC (X : Stand p l e R s m args below meth c T locs cells slots) (hx : p.tables.exec = Jvm.exec) (hZ : Z.Warmed39 s.vm) (eT : T.heap = h) (F : own_Av Z h a .char n f) {j : Int32} (hj : own_At j k) (hk : k < n) (hv : f k = v)
    {g : JFrame} (hg : g.method = m) {rest : List Value} (hs : g.stack = .int j :: .ref a :: rest) (hd : decode c.code g.pc = .ok (.caload, 1)) (t : State)
    (hr : Steps p.tables e below (T.setTop { g with pc := g.pc + 1, stack := v :: rest }) t) : Steps p.tables e below (T.setTop g) t := by
  obtain ⟨cl, A, S, H⟩ := F
  exact X.caload hx (by rw [eT]; exact A.1) (State.isArrayOf_alike hZ.alike A.2.1) A.2.2 (own_in hj hk S) (by rw [hj.2, H k hk, hv]) hg hs hd t hr
theorem own_ldB (X : Stand p l e R s m args below meth c T locs cells slots) (hx : p.tables.exec = Jvm.exec) (hZ : Z.Warmed39 s.vm) (eT : T.heap = h) (F : own_Av Z h a .byte n f) {j : Int32} (hj : own_At j k) (hk : k < n) (hv : f k = v)
    {g : JFrame} (hg : g.method = m) {rest : List Value} (hs : g.stack = .int j :: .ref a :: rest) (hd : decode c.code g.pc = .ok (.baload, 1)) (t : State)
    (hr : Steps p.tables e below (T.setTop { g with pc := g.pc + 1, stack := v :: rest }) t) : Steps p.tables e below (T.setTop g) t := by
  obtain ⟨cl, A, S, H⟩ := F
  exact X.baloadBytes hx (by rw [eT]; exact A.1) (State.isArrayOf_alike hZ.alike A.2.1) A.2.2 (own_in hj hk S) (by rw [hj.2, H k hk, hv]) hg hs hd t hr
theorem own_ldZ (X : Stand p l e R s m args below meth c T locs cells slots) (hx : p.tables.exec = Jvm.exec) (hZ : Z.Warmed39 s.vm) (eT : T.heap = h) (F : own_Av Z h a .boolean n f) {j : Int32} (hj : own_At j k) (hk : k < n) (hv : f k = v)
    {g : JFrame} (hg : g.method = m) {rest : List Value} (hs : g.stack = .int j :: .ref a :: rest) (hd : decode c.code g.pc = .ok (.baload, 1)) (t : State)
    (hr : Steps p.tables e below (T.setTop { g with pc := g.pc + 1, stack := v :: rest }) t) : Steps p.tables e below (T.setTop g) t := by
  obtain ⟨cl, A, S, H⟩ := F
  exact X.baloadBooleans hx (by rw [eT]; exact A.1) (State.isArrayOf_alike hZ.alike A.2.1) A.2.2 (own_in hj hk S) (by rw [hj.2, H k hk, hv]) hg hs hd t hr
theorem own_len (X : Stand p l e R s m args below meth c T locs cells slots) (hx : p.tables.exec = Jvm.exec) (hZ : Z.Warmed39 s.vm) (eT : T.heap = h) (F : own_Av Z h a ty n f) {z : Int32} (hz : n.toInt32 = z)
    {g : JFrame} (hg : g.method = m) {rest : List Value} (hs : g.stack = .ref a :: rest) (hd : decode c.code g.pc = .ok (.arraylength, 1)) (t : State)
    (hr : Steps p.tables e below (T.setTop { g with pc := g.pc + 1, stack := .int z :: rest }) t) : Steps p.tables e below (T.setTop g) t := by
  obtain ⟨cl, A, S, H⟩ := F
  exact X.arraylength hx (by rw [eT]; exact A.1) (State.isArrayOf_alike hZ.alike A.2.1) hg hs hd t (by rw [S, hz]; exact hr)
theorem own_stI (X : Stand p l e R s m args below meth c T locs cells slots) (hx : p.tables.exec = Jvm.exec) (hZ : Z.Warmed39 s.vm) (eT : T.heap = h) (F : own_Av Z h a .int n f) {j x : Int32} (hj : own_At j k) (hk : k < n)
    {g : JFrame} (hg : g.method = m) {rest : List Value} (hs : g.stack = .int x :: .int j :: .ref a :: rest) (hd : decode c.code g.pc = .ok (.iastore, 1)) :
    ∃ T' h', Stand p l e R s m args below meth c T' (locs ++ [⟨a, k⟩]) cells slots ∧ T'.heap = h' ∧ Wr h h' a k (.int x) ∧ own_Av Z h' a .int n (own_upd f k (.int x)) ∧ ∀ target, Steps p.tables e below (T'.setTop { g with pc := g.pc + 1, stack := rest }) target → Steps p.tables e below (T.setTop g) target := by
  obtain ⟨cl, A, S, H⟩ := id F
  obtain ⟨T', h', X', e', W', st⟩ := stI X hx hZ eT A (own_in hj hk S) hg hs hd
  rw [hj.2] at X' W'
  exact ⟨T', h', X', e', W', F.set W', st⟩
theorem own_stJ (X : Stand p l e R s m args below meth c T locs cells slots) (hx : p.tables.exec = Jvm.exec) (hZ : Z.Warmed39 s.vm) (eT : T.heap = h) (F : own_Av Z h a .long n f) {j : Int32} {x : Int64} (hj : own_At j k) (hk : k < n)
    {g : JFrame} (hg : g.method = m) {rest : List Value} (hs : g.stack = .long x :: .int j :: .ref a :: rest) (hd : decode c.code g.pc = .ok (.lastore, 1)) :
    ∃ T' h', Stand p l e R s m args below meth c T' (locs ++ [⟨a, k⟩]) cells slots ∧ T'.heap = h' ∧ Wr h h' a k (.long x) ∧ own_Av Z h' a .long n (own_upd f k (.long x)) ∧ ∀ target, Steps p.tables e below (T'.setTop { g with pc := g.pc + 1, stack := rest }) target → Steps p.tables e below (T.setTop g) target := by
  obtain ⟨cl, A, S, H⟩ := id F
  obtain ⟨T', h', X', e', W', st⟩ := stJ X hx hZ eT A (own_in hj hk S) hg hs hd
  rw [hj.2] at X' W'
  exact ⟨T', h', X', e', W', F.set W', st⟩
theorem own_stB (X : Stand p l e R s m args below meth c T locs cells slots) (hx : p.tables.exec = Jvm.exec) (hZ : Z.Warmed39 s.vm) (eT : T.heap = h) (F : own_Av Z h a .byte n f) {j x : Int32} (hj : own_At j k) (hk : k < n)
    {g : JFrame} (hg : g.method = m) {rest : List Value} (hs : g.stack = .int x :: .int j :: .ref a :: rest) (hd : decode c.code g.pc = .ok (.bastore, 1)) :
    ∃ T' h', Stand p l e R s m args below meth c T' (locs ++ [⟨a, k⟩]) cells slots ∧ T'.heap = h' ∧ Wr h h' a k (.int x.toInt8.toInt32) ∧ own_Av Z h' a .byte n (own_upd f k (.int x.toInt8.toInt32)) ∧ ∀ target, Steps p.tables e below (T'.setTop { g with pc := g.pc + 1, stack := rest }) target → Steps p.tables e below (T.setTop g) target := by
  obtain ⟨cl, A, S, H⟩ := id F
  obtain ⟨T', h', X', e', W', st⟩ := stB X hx hZ eT A (own_in hj hk S) hg hs hd
  rw [hj.2] at X' W'
  exact ⟨T', h', X', e', W', F.set W', st⟩
theorem own_stZ (X : Stand p l e R s m args below meth c T locs cells slots) (hx : p.tables.exec = Jvm.exec) (hZ : Z.Warmed39 s.vm) (eT : T.heap = h) (F : own_Av Z h a .boolean n f) {j x : Int32} (hj : own_At j k) (hk : k < n)
    {g : JFrame} (hg : g.method = m) {rest : List Value} (hs : g.stack = .int x :: .int j :: .ref a :: rest) (hd : decode c.code g.pc = .ok (.bastore, 1)) :
    ∃ T' h', Stand p l e R s m args below meth c T' (locs ++ [⟨a, k⟩]) cells slots ∧ T'.heap = h' ∧ Wr h h' a k (.int (x &&& 1)) ∧ own_Av Z h' a .boolean n (own_upd f k (.int (x &&& 1))) ∧ ∀ target, Steps p.tables e below (T'.setTop { g with pc := g.pc + 1, stack := rest }) target → Steps p.tables e below (T.setTop g) target := by
  obtain ⟨cl, A, S, H⟩ := id F
  obtain ⟨T', h', X', e', W', st⟩ := stZ X hx hZ eT A (own_in hj hk S) hg hs hd
  rw [hj.2] at X' W'
  exact ⟨T', h', X', e', W', F.set W', st⟩
theorem own_stC (X : Stand p l e R s m args below meth c T locs cells slots) (hx : p.tables.exec = Jvm.exec) (hZ : Z.Warmed39 s.vm) (eT : T.heap = h) (F : own_Av Z h a .char n f) {j x : Int32} (hj : own_At j k) (hk : k < n)
    {g : JFrame} (hg : g.method = m) {rest : List Value} (hs : g.stack = .int x :: .int j :: .ref a :: rest) (hd : decode c.code g.pc = .ok (.castore, 1)) :
    ∃ T' h', Stand p l e R s m args below meth c T' (locs ++ [⟨a, k⟩]) cells slots ∧ T'.heap = h' ∧ Wr h h' a k (.int (nar .char x)) ∧ own_Av Z h' a .char n (own_upd f k (.int (nar .char x))) ∧ ∀ target, Steps p.tables e below (T'.setTop { g with pc := g.pc + 1, stack := rest }) target → Steps p.tables e below (T.setTop g) target := by
  obtain ⟨cl, A, S, H⟩ := id F
  obtain ⟨T', h', X', e', W', st⟩ := stC X hx hZ eT A (own_in hj hk S) hg hs hd
  rw [hj.2] at X' W'
  exact ⟨T', h', X', e', W', F.set W', st⟩
theorem own_stS (X : Stand p l e R s m args below meth c T locs cells slots) (hx : p.tables.exec = Jvm.exec) (hZ : Z.Warmed39 s.vm) (eT : T.heap = h) (F : own_Av Z h a .short n f) {j x : Int32} (hj : own_At j k) (hk : k < n)
    {g : JFrame} (hg : g.method = m) {rest : List Value} (hs : g.stack = .int x :: .int j :: .ref a :: rest) (hd : decode c.code g.pc = .ok (.sastore, 1)) :
    ∃ T' h', Stand p l e R s m args below meth c T' (locs ++ [⟨a, k⟩]) cells slots ∧ T'.heap = h' ∧ Wr h h' a k (.int (nar .short x)) ∧ own_Av Z h' a .short n (own_upd f k (.int (nar .short x))) ∧ ∀ target, Steps p.tables e below (T'.setTop { g with pc := g.pc + 1, stack := rest }) target → Steps p.tables e below (T.setTop g) target := by
  obtain ⟨cl, A, S, H⟩ := id F
  obtain ⟨T', h', X', e', W', st⟩ := stS X hx hZ eT A (own_in hj hk S) hg hs hd
  rw [hj.2] at X' W'
  exact ⟨T', h', X', e', W', F.set W', st⟩
end OwnArr
theorem own_selP {Z s : State} {a0 args : Array Value} {y : MethodName} {n : Nat} (hZ : Z.Warmed39 s.vm) (wi : (Cond.instantiable y.cls n).before a0 Z = true) (wp : (Cond.privateMethod y).before a0 Z = true) (wm : (Cond.instanceMethod y).before a0 Z = true)
    (hy : y.cls ≠ "java/lang/invoke/MethodHandle" ∧ y.cls ≠ "java/lang/invoke/VarHandle") : (Cond.selects y.cls y y).before args s = true := by
  have w : (Cond.instantiable y.cls n).before args s = true := mvT hZ wi
  obtain ⟨c, k, h1, h2, -, h4, -⟩ := Cond.instantiable_spec w
  exact Jvm.Stand.selects_self_of_private h1 h2 (Bool.or_eq_false_iff.mp h4).1 (Cond.privateMethod_at (mvP hZ wp (args := args))) (mvT hZ wm) hy
theorem own_narZ {x : Int32} (h : x &&& 1 = x) : narrow .boolean (.int x) = .int x := by
  show Value.int (x &&& 1) = _
  rw [h]
theorem own_fitZ {x : Int32} (h : x &&& 1 = x) : fits .boolean (.int x) = true := by
  have q := fits_nar_bool x
  rw [show nar .boolean x = x from h] at q
  exact q
theorem own_mono {p : Program} {e : Env} {below : List Frame} {s T : State} {g : JFrame} {Q Q' : Option Value → Heap → List Loc → Prop} {k j : Nat} (h : ∀ v h L, Q v h L → Q' v h L) (G : own_Go p e below T g (own_Fin s Q k j)) : own_Go p e below T g (own_Fin s Q' k j) := by
  obtain ⟨s₂, o, h1, h2, h3, v, L, h4, h5, h6⟩ := G
  exact ⟨s₂, o, h1, h2, h3, v, L, h4, h _ _ _ h5, h6⟩
theorem own_ofs (i : Nat) : Int32.ofNat i + (1 : Int32) = Int32.ofNat (i + 1) := (Int32.ofNat_add i 1).symm
theorem own_toI {i : Nat} (h : i < 2147483648) : (Int32.ofNat i).toInt = i := Int32.toInt_ofNat_small h
theorem own_ix {i : Nat} (h : i < 2147483648) : own_At (Int32.ofNat i) i := by
  have e := own_toI h
  refine ⟨?_, ?_⟩
  · rw [Int32.lt_iff_toInt_lt, e, show (0 : Int32).toInt = 0 from by decide]; omega
  · simp only [Int32.toNatClampNeg, e]; omega
theorem own_oflt {i n : Nat} (hi : i < 2147483648) (hn : n < 2147483648) : Int32.ofNat i < Int32.ofNat n ↔ i < n := by
  rw [Int32.lt_iff_toInt_lt, own_toI hi, own_toI hn]; omega
theorem own_ofeq {i n : Nat} (hi : i < 2147483648) (hn : n < 2147483648) : Int32.ofNat i = Int32.ofNat n ↔ i = n := by
  rw [← Int32.toInt_inj, own_toI hi, own_toI hn]; omega
def own_fl (F : Nat → Int32) (i : Nat) (g : Nat → Value) (j : Nat) : Value := if j < i then .int (F j) else g j
theorem own_fl_up (F : Nat → Int32) (i : Nat) (g : Nat → Value) : ∀ j, own_upd (own_fl F i g) i (.int (F i)) j = own_fl F (i + 1) g j := fun j => by
  unfold own_fl
  by_cases q : j = i
  · subst q; rw [own_upd_hit rfl, if_pos (by omega)]
  · rw [own_upd_miss q]
    by_cases q2 : j < i
    · rw [if_pos q2, if_pos (by omega)]
    · rw [if_neg q2, if_neg (by omega)]
theorem own_fl0 (F : Nat → Int32) (g : Nat → Value) : ∀ j, g j = own_fl F 0 g j := fun j => by unfold own_fl; rw [if_neg (by omega)]
theorem own_fl_in {F : Nat → Int32} {i j : Nat} {g : Nat → Value} (h : j < i) : own_fl F i g j = .int (F j) := if_pos h
theorem own_fl_out {F : Nat → Int32} {i j : Nat} {g : Nat → Value} (h : ¬ j < i) : own_fl F i g j = g j := if_neg h

/-! single steps over own_Go -/
theorem own_s_iadd {p : Program} {e : Env} {below : List Frame} {T : State} {m : MethodId} {c : Code} {Φ : Outcome → State → Prop} {pc : Nat} {L : Array Slot} {S : List Value} (h : At T m c below) (hx : p.tables.exec = Jvm.exec) {x y : Int32} (hd : decode c.code pc = .ok (.iadd, 1)) (G : own_Go p e below T (mkF m (pc + 1) L (.int (x + y) :: S)) Φ) : own_Go p e below T (mkF m pc L (.int y :: .int x :: S)) Φ := own_by (fun t k => XS.iadd h hx rfl hd rfl k) G
theorem own_s_isub {p : Program} {e : Env} {below : List Frame} {T : State} {m : MethodId} {c : Code} {Φ : Outcome → State → Prop} {pc : Nat} {L : Array Slot} {S : List Value} (h : At T m c below) (hx : p.tables.exec = Jvm.exec) {x y : Int32} (hd : decode c.code pc = .ok (.isub, 1)) (G : own_Go p e below T (mkF m (pc + 1) L (.int (x - y) :: S)) Φ) : own_Go p e below T (mkF m pc L (.int y :: .int x :: S)) Φ := own_by (fun t k => XS.isub h hx rfl hd rfl k) G
theorem own_s_imul {p : Program} {e : Env} {below : List Frame} {T : State} {m : MethodId} {c : Code} {Φ : Outcome → State → Prop} {pc : Nat} {L : Array Slot} {S : List Value} (h : At T m c below) (hx : p.tables.exec = Jvm.exec) {x y : Int32} (hd : decode c.code pc = .ok (.imul, 1)) (G : own_Go p e below T (mkF m (pc + 1) L (.int (x * y) :: S)) Φ) : own_Go p e below T (mkF m pc L (.int y :: .int x :: S)) Φ := own_by (fun t k => XS.imul h hx rfl hd rfl k) G
theorem own_s_iand {p : Program} {e : Env} {below : List Frame} {T : State} {m : MethodId} {c : Code} {Φ : Outcome → State → Prop} {pc : Nat} {L : Array Slot} {S : List Value} (h : At T m c below) (hx : p.tables.exec = Jvm.exec) {x y : Int32} (hd : decode c.code pc = .ok (.iand, 1)) (G : own_Go p e below T (mkF m (pc + 1) L (.int (x &&& y) :: S)) Φ) : own_Go p e below T (mkF m pc L (.int y :: .int x :: S)) Φ := own_by (fun t k => XS.iand h hx rfl hd rfl k) G
theorem own_s_ior {p : Program} {e : Env} {below : List Frame} {T : State} {m : MethodId} {c : Code} {Φ : Outcome → State → Prop} {pc : Nat} {L : Array Slot} {S : List Value} (h : At T m c below) (hx : p.tables.exec = Jvm.exec) {x y : Int32} (hd : decode c.code pc = .ok (.ior, 1)) (G : own_Go p e below T (mkF m (pc + 1) L (.int (x ||| y) :: S)) Φ) : own_Go p e below T (mkF m pc L (.int y :: .int x :: S)) Φ := own_by (fun t k => XS.ior h hx rfl hd rfl k) G
theorem own_s_ixor {p : Program} {e : Env} {below : List Frame} {T : State} {m : MethodId} {c : Code} {Φ : Outcome → State → Prop} {pc : Nat} {L : Array Slot} {S : List Value} (h : At T m c below) (hx : p.tables.exec = Jvm.exec) {x y : Int32} (hd : decode c.code pc = .ok (.ixor, 1)) (G : own_Go p e below T (mkF m (pc + 1) L (.int (x ^^^ y) :: S)) Φ) : own_Go p e below T (mkF m pc L (.int y :: .int x :: S)) Φ := own_by (fun t k => XS.ixor h hx rfl hd rfl k) G
theorem own_s_ladd {p : Program} {e : Env} {below : List Frame} {T : State} {m : MethodId} {c : Code} {Φ : Outcome → State → Prop} {pc : Nat} {L : Array Slot} {S : List Value} (h : At T m c below) (hx : p.tables.exec = Jvm.exec) {x y : Int64} (hd : decode c.code pc = .ok (.ladd, 1)) (G : own_Go p e below T (mkF m (pc + 1) L (.long (x + y) :: S)) Φ) : own_Go p e below T (mkF m pc L (.long y :: .long x :: S)) Φ := own_by (fun t k => XS.ladd h hx rfl hd rfl k) G
theorem own_s_lsub {p : Program} {e : Env} {below : List Frame} {T : State} {m : MethodId} {c : Code} {Φ : Outcome → State → Prop} {pc : Nat} {L : Array Slot} {S : List Value} (h : At T m c below) (hx : p.tables.exec = Jvm.exec) {x y : Int64} (hd : decode c.code pc = .ok (.lsub, 1)) (G : own_Go p e below T (mkF m (pc + 1) L (.long (x - y) :: S)) Φ) : own_Go p e below T (mkF m pc L (.long y :: .long x :: S)) Φ := own_by (fun t k => XS.lsub h hx rfl hd rfl k) G
theorem own_s_lmul {p : Program} {e : Env} {below : List Frame} {T : State} {m : MethodId} {c : Code} {Φ : Outcome → State → Prop} {pc : Nat} {L : Array Slot} {S : List Value} (h : At T m c below) (hx : p.tables.exec = Jvm.exec) {x y : Int64} (hd : decode c.code pc = .ok (.lmul, 1)) (G : own_Go p e below T (mkF m (pc + 1) L (.long (x * y) :: S)) Φ) : own_Go p e below T (mkF m pc L (.long y :: .long x :: S)) Φ := own_by (fun t k => XS.lmul h hx rfl hd rfl k) G
theorem own_s_land {p : Program} {e : Env} {below : List Frame} {T : State} {m : MethodId} {c : Code} {Φ : Outcome → State → Prop} {pc : Nat} {L : Array Slot} {S : List Value} (h : At T m c below) (hx : p.tables.exec = Jvm.exec) {x y : Int64} (hd : decode c.code pc = .ok (.land, 1)) (G : own_Go p e below T (mkF m (pc + 1) L (.long (x &&& y) :: S)) Φ) : own_Go p e below T (mkF m pc L (.long y :: .long x :: S)) Φ := own_by (fun t k => XS.land h hx rfl hd rfl k) G
theorem own_s_lor {p : Program} {e : Env} {below : List Frame} {T : State} {m : MethodId} {c : Code} {Φ : Outcome → State → Prop} {pc : Nat} {L : Array Slot} {S : List Value} (h : At T m c below) (hx : p.tables.exec = Jvm.exec) {x y : Int64} (hd : decode c.code pc = .ok (.lor, 1)) (G : own_Go p e below T (mkF m (pc + 1) L (.long (x ||| y) :: S)) Φ) : own_Go p e below T (mkF m pc L (.long y :: .long x :: S)) Φ := own_by (fun t k => XS.lor h hx rfl hd rfl k) G
theorem own_s_lxor {p : Program} {e : Env} {below : List Frame} {T : State} {m : MethodId} {c : Code} {Φ : Outcome → State → Prop} {pc : Nat} {L : Array Slot} {S : List Value} (h : At T m c below) (hx : p.tables.exec = Jvm.exec) {x y : Int64} (hd : decode c.code pc = .ok (.lxor, 1)) (G : own_Go p e below T (mkF m (pc + 1) L (.long (x ^^^ y) :: S)) Φ) : own_Go p e below T (mkF m pc L (.long y :: .long x :: S)) Φ := own_by (fun t k => XS.lxor h hx rfl hd rfl k) G
theorem own_s_ishl {p : Program} {e : Env} {below : List Frame} {T : State} {m : MethodId} {c : Code} {Φ : Outcome → State → Prop} {pc : Nat} {L : Array Slot} {S : List Value} (h : At T m c below) (hx : p.tables.exec = Jvm.exec) {x y : Int32} (hd : decode c.code pc = .ok (.ishl, 1)) (G : own_Go p e below T (mkF m (pc + 1) L (.int (x <<< (y &&& 31)) :: S)) Φ) : own_Go p e below T (mkF m pc L (.int y :: .int x :: S)) Φ := own_by (fun t k => XS.ishl h hx rfl hd rfl k) G
theorem own_s_ishr {p : Program} {e : Env} {below : List Frame} {T : State} {m : MethodId} {c : Code} {Φ : Outcome → State → Prop} {pc : Nat} {L : Array Slot} {S : List Value} (h : At T m c below) (hx : p.tables.exec = Jvm.exec) {x y : Int32} (hd : decode c.code pc = .ok (.ishr, 1)) (G : own_Go p e below T (mkF m (pc + 1) L (.int (x >>> (y &&& 31)) :: S)) Φ) : own_Go p e below T (mkF m pc L (.int y :: .int x :: S)) Φ := own_by (fun t k => XS.ishr h hx rfl hd rfl k) G
theorem own_s_iushr {p : Program} {e : Env} {below : List Frame} {T : State} {m : MethodId} {c : Code} {Φ : Outcome → State → Prop} {pc : Nat} {L : Array Slot} {S : List Value} (h : At T m c below) (hx : p.tables.exec = Jvm.exec) {x y : Int32} (hd : decode c.code pc = .ok (.iushr, 1)) (G : own_Go p e below T (mkF m (pc + 1) L (.int ((x.toUInt32 >>> (y &&& 31).toUInt32).toInt32) :: S)) Φ) : own_Go p e below T (mkF m pc L (.int y :: .int x :: S)) Φ := own_by (fun t k => XS.iushr h hx rfl hd rfl k) G
theorem own_s_lshl {p : Program} {e : Env} {below : List Frame} {T : State} {m : MethodId} {c : Code} {Φ : Outcome → State → Prop} {pc : Nat} {L : Array Slot} {S : List Value} (h : At T m c below) (hx : p.tables.exec = Jvm.exec) {x : Int64} {y : Int32} (hd : decode c.code pc = .ok (.lshl, 1)) (G : own_Go p e below T (mkF m (pc + 1) L (.long (x <<< (y &&& 0x3f).toInt64) :: S)) Φ) : own_Go p e below T (mkF m pc L (.int y :: .long x :: S)) Φ := own_by (fun t k => XS.lshl h hx rfl hd rfl k) G
theorem own_s_lshr {p : Program} {e : Env} {below : List Frame} {T : State} {m : MethodId} {c : Code} {Φ : Outcome → State → Prop} {pc : Nat} {L : Array Slot} {S : List Value} (h : At T m c below) (hx : p.tables.exec = Jvm.exec) {x : Int64} {y : Int32} (hd : decode c.code pc = .ok (.lshr, 1)) (G : own_Go p e below T (mkF m (pc + 1) L (.long (x >>> (y &&& 0x3f).toInt64) :: S)) Φ) : own_Go p e below T (mkF m pc L (.int y :: .long x :: S)) Φ := own_by (fun t k => XS.lshr h hx rfl hd rfl k) G
theorem own_s_lushr {p : Program} {e : Env} {below : List Frame} {T : State} {m : MethodId} {c : Code} {Φ : Outcome → State → Prop} {pc : Nat} {L : Array Slot} {S : List Value} (h : At T m c below) (hx : p.tables.exec = Jvm.exec) {x : Int64} {y : Int32} (hd : decode c.code pc = .ok (.lushr, 1)) (G : own_Go p e below T (mkF m (pc + 1) L (.long ((x.toUInt64 >>> (y &&& 0x3f).toInt64.toUInt64).toInt64) :: S)) Φ) : own_Go p e below T (mkF m pc L (.int y :: .long x :: S)) Φ := own_by (fun t k => XS.lushr h hx rfl hd rfl k) G
theorem own_s_ineg {p : Program} {e : Env} {below : List Frame} {T : State} {m : MethodId} {c : Code} {Φ : Outcome → State → Prop} {pc : Nat} {L : Array Slot} {S : List Value} (h : At T m c below) (hx : p.tables.exec = Jvm.exec) {x : Int32} (hd : decode c.code pc = .ok (.ineg, 1)) (G : own_Go p e below T (mkF m (pc + 1) L (.int (-x) :: S)) Φ) : own_Go p e below T (mkF m pc L (.int x :: S)) Φ := own_by (fun t k => XS.ineg h hx rfl hd rfl k) G
theorem own_s_lneg {p : Program} {e : Env} {below : List Frame} {T : State} {m : MethodId} {c : Code} {Φ : Outcome → State → Prop} {pc : Nat} {L : Array Slot} {S : List Value} (h : At T m c below) (hx : p.tables.exec = Jvm.exec) {x : Int64} (hd : decode c.code pc = .ok (.lneg, 1)) (G : own_Go p e below T (mkF m (pc + 1) L (.long (-x) :: S)) Φ) : own_Go p e below T (mkF m pc L (.long x :: S)) Φ := own_by (fun t k => XS.lneg h hx rfl hd rfl k) G
theorem own_s_i2l {p : Program} {e : Env} {below : List Frame} {T : State} {m : MethodId} {c : Code} {Φ : Outcome → State → Prop} {pc : Nat} {L : Array Slot} {S : List Value} (h : At T m c below) (hx : p.tables.exec = Jvm.exec) {x : Int32} (hd : decode c.code pc = .ok (.i2l, 1)) (G : own_Go p e below T (mkF m (pc + 1) L (.long (x.toInt64) :: S)) Φ) : own_Go p e below T (mkF m pc L (.int x :: S)) Φ := own_by (fun t k => XS.i2l h hx rfl hd rfl k) G
theorem own_s_l2i {p : Program} {e : Env} {below : List Frame} {T : State} {m : MethodId} {c : Code} {Φ : Outcome → State → Prop} {pc : Nat} {L : Array Slot} {S : List Value} (h : At T m c below) (hx : p.tables.exec = Jvm.exec) {x : Int64} (hd : decode c.code pc = .ok (.l2i, 1)) (G : own_Go p e below T (mkF m (pc + 1) L (.int (x.toInt32) :: S)) Φ) : own_Go p e below T (mkF m pc L (.long x :: S)) Φ := own_by (fun t k => XS.l2i h hx rfl hd rfl k) G
theorem own_s_i2b {p : Program} {e : Env} {below : List Frame} {T : State} {m : MethodId} {c : Code} {Φ : Outcome → State → Prop} {pc : Nat} {L : Array Slot} {S : List Value} (h : At T m c below) (hx : p.tables.exec = Jvm.exec) {x : Int32} (hd : decode c.code pc = .ok (.i2b, 1)) (G : own_Go p e below T (mkF m (pc + 1) L (.int (x.toInt8.toInt32) :: S)) Φ) : own_Go p e below T (mkF m pc L (.int x :: S)) Φ := own_by (fun t k => XS.i2b h hx rfl hd rfl k) G
theorem own_s_i2s {p : Program} {e : Env} {below : List Frame} {T : State} {m : MethodId} {c : Code} {Φ : Outcome → State → Prop} {pc : Nat} {L : Array Slot} {S : List Value} (h : At T m c below) (hx : p.tables.exec = Jvm.exec) {x : Int32} (hd : decode c.code pc = .ok (.i2s, 1)) (G : own_Go p e below T (mkF m (pc + 1) L (.int (x.toInt16.toInt32) :: S)) Φ) : own_Go p e below T (mkF m pc L (.int x :: S)) Φ := own_by (fun t k => XS.i2s h hx rfl hd rfl k) G
theorem own_s_i2c {p : Program} {e : Env} {below : List Frame} {T : State} {m : MethodId} {c : Code} {Φ : Outcome → State → Prop} {pc : Nat} {L : Array Slot} {S : List Value} (h : At T m c below) (hx : p.tables.exec = Jvm.exec) {x : Int32} (hd : decode c.code pc = .ok (.i2c, 1)) (G : own_Go p e below T (mkF m (pc + 1) L (.int (x.toUInt32.toUInt16.toUInt32.toInt32) :: S)) Φ) : own_Go p e below T (mkF m pc L (.int x :: S)) Φ := own_by (fun t k => XS.i2c h hx rfl hd rfl k) G
theorem own_s_iloadN {p : Program} {e : Env} {below : List Frame} {T : State} {m : MethodId} {c : Code} {Φ : Outcome → State → Prop} {pc : Nat} {L : Array Slot} {S : List Value} (h : At T m c below) (hx : p.tables.exec = Jvm.exec) {i : Fin 4} {v : Int32} (hd : decode c.code pc = .ok (.iload_n i, 1)) (hl : L[i.val]? = some (.val (.int v))) (G : own_Go p e below T (mkF m (pc + 1) L (.int v :: S)) Φ) : own_Go p e below T (mkF m pc L S) Φ := own_by (fun t k => XS.iloadN h hx rfl hd hl k) G
theorem own_s_iload {p : Program} {e : Env} {below : List Frame} {T : State} {m : MethodId} {c : Code} {Φ : Outcome → State → Prop} {pc : Nat} {L : Array Slot} {S : List Value} (h : At T m c below) (hx : p.tables.exec = Jvm.exec) {i : Nat} {v : Int32} (hd : decode c.code pc = .ok (.iload i, 2)) (hl : L[i]? = some (.val (.int v))) (G : own_Go p e below T (mkF m (pc + 2) L (.int v :: S)) Φ) : own_Go p e below T (mkF m pc L S) Φ := own_by (fun t k => XS.iload h hx rfl hd hl k) G
theorem own_s_lloadN {p : Program} {e : Env} {below : List Frame} {T : State} {m : MethodId} {c : Code} {Φ : Outcome → State → Prop} {pc : Nat} {L : Array Slot} {S : List Value} (h : At T m c below) (hx : p.tables.exec = Jvm.exec) {i : Fin 4} {v : Int64} (hd : decode c.code pc = .ok (.lload_n i, 1)) (hl : L[i.val]? = some (.val (.long v))) (G : own_Go p e below T (mkF m (pc + 1) L (.long v :: S)) Φ) : own_Go p e below T (mkF m pc L S) Φ := own_by (fun t k => XS.lloadN h hx rfl hd hl k) G
theorem own_s_lload {p : Program} {e : Env} {below : List Frame} {T : State} {m : MethodId} {c : Code} {Φ : Outcome → State → Prop} {pc : Nat} {L : Array Slot} {S : List Value} (h : At T m c below) (hx : p.tables.exec = Jvm.exec) {i : Nat} {v : Int64} (hd : decode c.code pc = .ok (.lload i, 2)) (hl : L[i]? = some (.val (.long v))) (G : own_Go p e below T (mkF m (pc + 2) L (.long v :: S)) Φ) : own_Go p e below T (mkF m pc L S) Φ := own_by (fun t k => XS.lload h hx rfl hd hl k) G
theorem own_s_aloadN {p : Program} {e : Env} {below : List Frame} {T : State} {m : MethodId} {c : Code} {Φ : Outcome → State → Prop} {pc : Nat} {L : Array Slot} {S : List Value} (h : At T m c below) (hx : p.tables.exec = Jvm.exec) {i : Fin 4} {v : Value} (hd : decode c.code pc = .ok (.aload_n i, 1)) (hl : L[i.val]? = some (.val v)) (hv : v.isRef = true) (G : own_Go p e below T (mkF m (pc + 1) L (v :: S)) Φ) : own_Go p e below T (mkF m pc L S) Φ := own_by (fun t k => XS.aloadN h hx rfl hd hl hv k) G
theorem own_s_aload {p : Program} {e : Env} {below : List Frame} {T : State} {m : MethodId} {c : Code} {Φ : Outcome → State → Prop} {pc : Nat} {L : Array Slot} {S : List Value} (h : At T m c below) (hx : p.tables.exec = Jvm.exec) {i : Nat} {v : Value} (hd : decode c.code pc = .ok (.aload i, 2)) (hl : L[i]? = some (.val v)) (hv : v.isRef = true) (G : own_Go p e below T (mkF m (pc + 2) L (v :: S)) Φ) : own_Go p e below T (mkF m pc L S) Φ := own_by (fun t k => XS.aload h hx rfl hd hl hv k) G
theorem own_s_istoreN {p : Program} {e : Env} {below : List Frame} {T : State} {m : MethodId} {c : Code} {Φ : Outcome → State → Prop} {pc : Nat} {L : Array Slot} {S : List Value} (h : At T m c below) (hx : p.tables.exec = Jvm.exec) {i : Fin 4} {v : Int32} (L' : Array Slot) (hd : decode c.code pc = .ok (.istore_n i, 1)) (hl : storeLocals L i.val (.int v) = some L') (G : own_Go p e below T (mkF m (pc + 1) L' S) Φ) : own_Go p e below T (mkF m pc L (.int v :: S)) Φ := own_by (fun t k => XS.istoreN h hx rfl hd rfl hl k) G
theorem own_s_istore {p : Program} {e : Env} {below : List Frame} {T : State} {m : MethodId} {c : Code} {Φ : Outcome → State → Prop} {pc : Nat} {L : Array Slot} {S : List Value} (h : At T m c below) (hx : p.tables.exec = Jvm.exec) {i : Nat} {v : Int32} (L' : Array Slot) (hd : decode c.code pc = .ok (.istore i, 2)) (hl : storeLocals L i (.int v) = some L') (G : own_Go p e below T (mkF m (pc + 2) L' S) Φ) : own_Go p e below T (mkF m pc L (.int v :: S)) Φ := own_by (fun t k => XS.istore h hx rfl hd rfl hl k) G
theorem own_s_lstoreN {p : Program} {e : Env} {below : List Frame} {T : State} {m : MethodId} {c : Code} {Φ : Outcome → State → Prop} {pc : Nat} {L : Array Slot} {S : List Value} (h : At T m c below) (hx : p.tables.exec = Jvm.exec) {i : Fin 4} {v : Int64} (L' : Array Slot) (hd : decode c.code pc = .ok (.lstore_n i, 1)) (hl : storeLocals L i.val (.long v) = some L') (G : own_Go p e below T (mkF m (pc + 1) L' S) Φ) : own_Go p e below T (mkF m pc L (.long v :: S)) Φ := own_by (fun t k => XS.lstoreN h hx rfl hd rfl hl k) G
theorem own_s_lstore {p : Program} {e : Env} {below : List Frame} {T : State} {m : MethodId} {c : Code} {Φ : Outcome → State → Prop} {pc : Nat} {L : Array Slot} {S : List Value} (h : At T m c below) (hx : p.tables.exec = Jvm.exec) {i : Nat} {v : Int64} (L' : Array Slot) (hd : decode c.code pc = .ok (.lstore i, 2)) (hl : storeLocals L i (.long v) = some L') (G : own_Go p e below T (mkF m (pc + 2) L' S) Φ) : own_Go p e below T (mkF m pc L (.long v :: S)) Φ := own_by (fun t k => XS.lstore h hx rfl hd rfl hl k) G
theorem own_s_astoreN {p : Program} {e : Env} {below : List Frame} {T : State} {m : MethodId} {c : Code} {Φ : Outcome → State → Prop} {pc : Nat} {L : Array Slot} {S : List Value} (h : At T m c below) (hx : p.tables.exec = Jvm.exec) {i : Fin 4} {v : Value} (L' : Array Slot) (hd : decode c.code pc = .ok (.astore_n i, 1)) (hv : v.isRef = true) (hl : storeLocals L i.val v = some L') (G : own_Go p e below T (mkF m (pc + 1) L' S) Φ) : own_Go p e below T (mkF m pc L (v :: S)) Φ := own_by (fun t k => XS.astoreN h hx rfl hd rfl hv hl k) G
theorem own_s_astore {p : Program} {e : Env} {below : List Frame} {T : State} {m : MethodId} {c : Code} {Φ : Outcome → State → Prop} {pc : Nat} {L : Array Slot} {S : List Value} (h : At T m c below) (hx : p.tables.exec = Jvm.exec) {i : Nat} {v : Value} (L' : Array Slot) (hd : decode c.code pc = .ok (.astore i, 2)) (hv : v.isRef = true) (hl : storeLocals L i v = some L') (G : own_Go p e below T (mkF m (pc + 2) L' S) Φ) : own_Go p e below T (mkF m pc L (v :: S)) Φ := own_by (fun t k => XS.astore h hx rfl hd rfl hv hl k) G
theorem own_s_iconst {p : Program} {e : Env} {below : List Frame} {T : State} {m : MethodId} {c : Code} {Φ : Outcome → State → Prop} {pc : Nat} {L : Array Slot} {S : List Value} (h : At T m c below) (hx : p.tables.exec = Jvm.exec) {i : Int} (v : Int32) (hd : decode c.code pc = .ok (.iconst i, 1)) (hv : Int32.ofInt i = v) (G : own_Go p e below T (mkF m (pc + 1) L (.int v :: S)) Φ) : own_Go p e below T (mkF m pc L S) Φ := own_by (fun t k => XS.iconst h hx rfl hd (by rw [hv]; exact k)) G
theorem own_s_bipush {p : Program} {e : Env} {below : List Frame} {T : State} {m : MethodId} {c : Code} {Φ : Outcome → State → Prop} {pc : Nat} {L : Array Slot} {S : List Value} (h : At T m c below) (hx : p.tables.exec = Jvm.exec) {i : Int} (v : Int32) (hd : decode c.code pc = .ok (.bipush i, 2)) (hv : (Int8.ofInt i).toInt32 = v) (G : own_Go p e below T (mkF m (pc + 2) L (.int v :: S)) Φ) : own_Go p e below T (mkF m pc L S) Φ := own_by (fun t k => XS.bipush h hx rfl hd (by rw [hv]; exact k)) G
theorem own_s_sipush {p : Program} {e : Env} {below : List Frame} {T : State} {m : MethodId} {c : Code} {Φ : Outcome → State → Prop} {pc : Nat} {L : Array Slot} {S : List Value} (h : At T m c below) (hx : p.tables.exec = Jvm.exec) {i : Int} (v : Int32) (hd : decode c.code pc = .ok (.sipush i, 3)) (hv : (Int16.ofInt i).toInt32 = v) (G : own_Go p e below T (mkF m (pc + 3) L (.int v :: S)) Φ) : own_Go p e below T (mkF m pc L S) Φ := own_by (fun t k => XS.sipush h hx rfl hd (by rw [hv]; exact k)) G
theorem own_s_lconst {p : Program} {e : Env} {below : List Frame} {T : State} {m : MethodId} {c : Code} {Φ : Outcome → State → Prop} {pc : Nat} {L : Array Slot} {S : List Value} (h : At T m c below) (hx : p.tables.exec = Jvm.exec) {i : Fin 2} (v : Int64) (hd : decode c.code pc = .ok (.lconst i, 1)) (hv : Int64.ofNat i = v) (G : own_Go p e below T (mkF m (pc + 1) L (.long v :: S)) Φ) : own_Go p e below T (mkF m pc L S) Φ := own_by (fun t k => XS.lconst h hx rfl hd (by rw [hv]; exact k)) G
theorem own_s_goto {p : Program} {e : Env} {below : List Frame} {T : State} {m : MethodId} {c : Code} {Φ : Outcome → State → Prop} {pc : Nat} {L : Array Slot} {S : List Value} (h : At T m c below) (hx : p.tables.exec = Jvm.exec) {o : Int} (pc' : Nat) (hd : decode c.code pc = .ok (.goto o, 3)) (ho : 0 ≤ (pc : Int) + o) (hp : ((pc : Int) + o).toNat = pc') (G : own_Go p e below T (mkF m pc' L S) Φ) : own_Go p e below T (mkF m pc L S) Φ := own_by (fun t k => XS.goto h hx rfl rfl hd ho hp k) G
theorem own_s_ifYes {p : Program} {e : Env} {below : List Frame} {T : State} {m : MethodId} {c : Code} {Φ : Outcome → State → Prop} {pc : Nat} {L : Array Slot} {S : List Value} (h : At T m c below) (hx : p.tables.exec = Jvm.exec) {cd : ClassFile.Cond} {x : Int32} {o : Int} (pc' : Nat) (hd : decode c.code pc = .ok (.ifCond cd o, 3)) (hc : ifCond.holds cd x = true) (ho : 0 ≤ (pc : Int) + o) (hp : ((pc : Int) + o).toNat = pc') (G : own_Go p e below T (mkF m pc' L S) Φ) : own_Go p e below T (mkF m pc L (.int x :: S)) Φ := own_by (fun t k => XS.ifYes h hx rfl rfl hd rfl hc ho hp k) G
theorem own_s_ifNo {p : Program} {e : Env} {below : List Frame} {T : State} {m : MethodId} {c : Code} {Φ : Outcome → State → Prop} {pc : Nat} {L : Array Slot} {S : List Value} (h : At T m c below) (hx : p.tables.exec = Jvm.exec) {cd : ClassFile.Cond} {x : Int32} {o : Int} (hd : decode c.code pc = .ok (.ifCond cd o, 3)) (hc : ifCond.holds cd x = false) (G : own_Go p e below T (mkF m (pc + 3) L S) Φ) : own_Go p e below T (mkF m pc L (.int x :: S)) Φ := own_by (fun t k => XS.ifNo h hx rfl hd rfl hc k) G
theorem own_s_icmpYes {p : Program} {e : Env} {below : List Frame} {T : State} {m : MethodId} {c : Code} {Φ : Outcome → State → Prop} {pc : Nat} {L : Array Slot} {S : List Value} (h : At T m c below) (hx : p.tables.exec = Jvm.exec) {cd : ClassFile.Cond} {x y : Int32} {o : Int} (pc' : Nat) (hd : decode c.code pc = .ok (.if_icmp cd o, 3)) (hc : if_icmp.holds cd x y = true) (ho : 0 ≤ (pc : Int) + o) (hp : ((pc : Int) + o).toNat = pc') (G : own_Go p e below T (mkF m pc' L S) Φ) : own_Go p e below T (mkF m pc L (.int y :: .int x :: S)) Φ := own_by (fun t k => XS.icmpYes h hx rfl rfl hd rfl hc ho hp k) G
theorem own_s_icmpNo {p : Program} {e : Env} {below : List Frame} {T : State} {m : MethodId} {c : Code} {Φ : Outcome → State → Prop} {pc : Nat} {L : Array Slot} {S : List Value} (h : At T m c below) (hx : p.tables.exec = Jvm.exec) {cd : ClassFile.Cond} {x y : Int32} {o : Int} (hd : decode c.code pc = .ok (.if_icmp cd o, 3)) (hc : if_icmp.holds cd x y = false) (G : own_Go p e below T (mkF m (pc + 3) L S) Φ) : own_Go p e below T (mkF m pc L (.int y :: .int x :: S)) Φ := own_by (fun t k => XS.icmpNo h hx rfl hd rfl hc k) G
theorem own_s_lcmp {p : Program} {e : Env} {below : List Frame} {T : State} {m : MethodId} {c : Code} {Φ : Outcome → State → Prop} {pc : Nat} {L : Array Slot} {S : List Value} (h : At T m c below) (hx : p.tables.exec = Jvm.exec) {x y : Int64} (hd : decode c.code pc = .ok (.lcmp, 1)) (G : own_Go p e below T (mkF m (pc + 1) L (.int (Jvm.Free.XT.cmpL x y) :: S)) Φ) : own_Go p e below T (mkF m pc L (.long y :: .long x :: S)) Φ := own_by (fun t k => Jvm.Free.XT.lcmp h hx rfl hd rfl k) G
theorem own_s_dup {p : Program} {e : Env} {below : List Frame} {T : State} {m : MethodId} {c : Code} {Φ : Outcome → State → Prop} {pc : Nat} {L : Array Slot} {S : List Value} (h : At T m c below) (hx : p.tables.exec = Jvm.exec) {x : Value} (hd : decode c.code pc = .ok (.dup, 1)) (hc : x.category = 1) (G : own_Go p e below T (mkF m (pc + 1) L (x :: x :: S)) Φ) : own_Go p e below T (mkF m pc L (x :: S)) Φ := own_by (fun t k => XS.dup h hx rfl hd rfl hc k) G
theorem own_s_pop {p : Program} {e : Env} {below : List Frame} {T : State} {m : MethodId} {c : Code} {Φ : Outcome → State → Prop} {pc : Nat} {L : Array Slot} {S : List Value} (h : At T m c below) (hx : p.tables.exec = Jvm.exec) {x : Value} (hd : decode c.code pc = .ok (.pop, 1)) (hc : x.category = 1) (G : own_Go p e below T (mkF m (pc + 1) L S) Φ) : own_Go p e below T (mkF m pc L (x :: S)) Φ := own_by (fun t k => XS.pop h hx rfl hd rfl hc k) G

theorem own_mod2 {x t : Nat} (h : x < t + t) : x % t = if x < t then x else x - t := by
  by_cases q : x < t
  · rw [if_pos q, Nat.mod_eq_of_lt q]
  · rw [if_neg q, Nat.mod_eq_sub_mod (by omega), Nat.mod_eq_of_lt (by omega)]
def own_T (b kk : Nat) (tb : Nat → Int32) (fi : Nat → Int64) (ax : Int64) : Prop := (∃ qs : List Nat, qs.length = kk ∧ ∀ i, i < 2 ^ b → tb i ≠ -1 → ∃ j, qs[j]? = some i ∧ tb i = Int32.ofNat j) ∧ ∀ j, j < kk → fi j = ax + Int64.ofNat j
theorem own_pw {b : Nat} (h : 5 ≤ b ∧ b ≤ 12) : 32 ≤ 2 ^ b ∧ 2 ^ b ≤ 4096 := by
  obtain ⟨h1, h2⟩ := h
  exact ⟨Nat.pow_le_pow_right (n := 2) (by decide) h1, Nat.pow_le_pow_right (n := 2) (by decide) h2⟩
theorem own_T0 (b : Nat) (fi : Nat → Int64) (ax : Int64) : own_T b 0 (fun _ => (-1 : Int32)) fi ax := ⟨⟨[], rfl, fun i _ q => absurd rfl q⟩, fun j q => absurd q (by omega)⟩
theorem own_TP2 {b kk : Nat} {tb : Nat → Int32} {fi : Nat → Int64} {ax : Int64} (hb : 5 ≤ b ∧ b ≤ 12) (hk : kk ≤ 2) (h : own_T b kk tb fi ax) : ∀ i, i < 2 ^ b → tb i = -1 ∨ tb ((i + 1) % 2 ^ b) = -1 ∨ tb ((i + 2) % 2 ^ b) = -1 := by
  obtain ⟨⟨qs, hl, hq⟩, -⟩ := h
  have ht := (own_pw hb).1
  generalize 2 ^ b = t at *
  intro i hi
  by_cases q0 : tb i = -1
  · exact Or.inl q0
  by_cases q1 : tb ((i + 1) % t) = -1
  · exact Or.inr (Or.inl q1)
  by_cases q2 : tb ((i + 2) % t) = -1
  · exact Or.inr (Or.inr q2)
  exfalso
  obtain ⟨j0, a0, -⟩ := hq i hi q0
  obtain ⟨j1, a1, -⟩ := hq _ (Nat.mod_lt _ (by omega)) q1
  obtain ⟨j2, a2, -⟩ := hq _ (Nat.mod_lt _ (by omega)) q2
  have l0 := (List.getElem?_eq_some_iff.mp a0).1
  have l1 := (List.getElem?_eq_some_iff.mp a1).1
  have l2 := (List.getElem?_eq_some_iff.mp a2).1
  rw [own_mod2 (by omega)] at a1 a2
  have n01 : j0 ≠ j1 := fun z => by subst z; rw [a0] at a1; have := Option.some.inj a1; split at this <;> omega
  have n02 : j0 ≠ j2 := fun z => by subst z; rw [a0] at a2; have := Option.some.inj a2; split at this <;> omega
  have n12 : j1 ≠ j2 := fun z => by subst z; rw [a1] at a2; have := Option.some.inj a2; split at this <;> split at this <;> omega
  omega
theorem own_axne {ax : Int64} {j kk : Nat} (h : j < kk) (hk : kk ≤ 2) : ax + Int64.ofNat j ≠ ax + Int64.ofNat kk := by
  intro q
  have q' := (Int64.add_right_inj (c := ax)).mp q
  have : j = 0 ∧ kk = 1 ∨ j = 0 ∧ kk = 2 ∨ j = 1 ∧ kk = 2 := by omega
  rcases this with ⟨rfl, rfl⟩ | ⟨rfl, rfl⟩ | ⟨rfl, rfl⟩ <;> exact absurd q' (by decide)
theorem own_TP1 {b kk nI : Nat} {tb : Nat → Int32} {fi : Nat → Int64} {ax x : Int64} (hk : kk ≤ 2) (hn : 16 ≤ nI) (hx : x = ax + Int64.ofNat kk) (h : own_T b kk tb fi ax) : ∀ i, i < 2 ^ b → tb i = -1 ∨ ∃ j, j < nI ∧ own_At (tb i) j ∧ ¬ fi j = x := by
  obtain ⟨⟨qs, hl, hq⟩, hi⟩ := h
  intro i q
  by_cases q0 : tb i = -1
  · exact Or.inl q0
  obtain ⟨j, a, e⟩ := hq i q q0
  have l := (List.getElem?_eq_some_iff.mp a).1
  refine Or.inr ⟨j, by omega, by rw [e]; exact own_ix (by omega), ?_⟩
  rw [hi j (by omega), hx]; exact own_axne (by omega) hk
theorem own_TS {b kk q : Nat} {tb : Nat → Int32} {fi : Nat → Int64} {ax x : Int64} (hx : x = ax + Int64.ofNat kk) (h : own_T b kk tb fi ax) : own_T b (kk + 1) (fun i => if i = q then Int32.ofNat kk else tb i) (fun i => if i = kk then x else fi i) ax := by
  obtain ⟨⟨qs, hl, hq⟩, hi⟩ := h
  refine ⟨⟨qs ++ [q], by simp [hl], fun i hb hne => ?_⟩, fun j hj => ?_⟩
  · by_cases z : i = q
    · subst z
      refine ⟨kk, ?_, by simp⟩
      rw [List.getElem?_append_right (by omega), hl, Nat.sub_self]; rfl
    · simp only [if_neg z] at hne ⊢
      obtain ⟨j, a, e⟩ := hq i hb hne
      exact ⟨j, by rw [List.getElem?_append_left (List.getElem?_eq_some_iff.mp a).1]; exact a, e⟩
  · by_cases z : j = kk
    · subst z; simp only [if_true]; exact hx
    · simp only [if_neg z]; exact hi j (by omega)
theorem own_b8 {P : Nat → Prop} (h : ∀ i : Fin 8, P (5 + i.val)) {b : Nat} (hb : 5 ≤ b ∧ b ≤ 12) : P b := by
  have := h ⟨b - 5, by omega⟩
  rwa [show 5 + (b - 5) = b by omega] at this
theorem own_and (a c : Nat) : Int32.ofNat a &&& Int32.ofNat c = Int32.ofNat (a &&& c) := by
  apply Int32.toBitVec_inj.mp
  apply BitVec.eq_of_toNat_eq
  simp [Nat.and_mod_two_pow (n := 32)]
theorem own_nx {b q : Nat} (hb : 5 ≤ b ∧ b ≤ 12) : ((Int32.ofNat q) + (1 : Int32)) &&& ((Int32.ofNat (2 ^ b)) - (1 : Int32)) = Int32.ofNat ((q + 1) % 2 ^ b) := by
  have e : ∀ b, (5 ≤ b ∧ b ≤ 12) → (Int32.ofNat (2 ^ b)) - (1 : Int32) = Int32.ofNat (2 ^ b - 1) := fun b hb => own_b8 (P := fun b => (Int32.ofNat (2 ^ b)) - (1 : Int32) = Int32.ofNat (2 ^ b - 1)) (by decide +kernel) hb
  rw [own_ofs, e b hb, own_and, Nat.and_two_pow_sub_one_eq_mod]
theorem own_shl {b : Nat} (hb : 5 ≤ b ∧ b ≤ 12) : ((1 : Int32) <<< ((Int32.ofNat b) &&& 31)) = Int32.ofNat (2 ^ b) := own_b8 (P := fun b => ((1 : Int32) <<< ((Int32.ofNat b) &&& 31)) = Int32.ofNat (2 ^ b)) (by decide +kernel) hb
def own_home (x : Int64) (b : Nat) : Int32 := ((((x * (-7046029254386353131 : Int64)).toUInt64 >>> (((64 : Int32) - (Int32.ofNat b)) &&& 0x3f).toInt64.toUInt64).toInt64).toInt32)
theorem own_u2i (u : UInt64) : u.toInt64.toInt32 = Int32.ofNat u.toNat := by
  apply Int32.toBitVec_inj.mp
  apply BitVec.eq_of_toNat_eq
  show (BitVec.signExtend 32 u.toBitVec).toNat = _
  rw [BitVec.signExtend_eq_setWidth_of_le _ (by decide), BitVec.toNat_setWidth]
  simp
theorem own_homeL (x : Int64) {b : Nat} (hb : 5 ≤ b ∧ b ≤ 12) : ∃ q, q < 2 ^ b ∧ own_home x b = Int32.ofNat q := by
  unfold own_home
  generalize (x * (-7046029254386353131 : Int64)).toUInt64 = u
  refine ⟨_, ?_, own_u2i _⟩
  have e : (((64 : Int32) - (Int32.ofNat b)) &&& 0x3f).toInt64.toUInt64.toNat = 64 - b := own_b8 (P := fun b => (((64 : Int32) - (Int32.ofNat b)) &&& 0x3f).toInt64.toUInt64.toNat = 64 - b) (by decide +kernel) hb
  rw [UInt64.toNat_shiftRight, e, Nat.mod_eq_of_lt (by omega), Nat.shiftRight_eq_div_pow]
  have l := u.toNat_lt
  refine Nat.div_lt_of_lt_mul ?_
  rw [← Nat.pow_add, show 64 - b + b = 64 by omega]
  exact l
theorem own_updJ (f : Nat → Int64) (k : Nat) (v : Int64) (i : Nat) : own_upd (fun i => .long (f i)) k (.long v) i = .long (if i = k then v else f i) := by
  by_cases q : i = k
  · rw [own_upd_hit q, if_pos q]
  · rw [own_upd_miss q, if_neg q]
theorem own_updI (f : Nat → Int32) (k : Nat) (v : Int32) (i : Nat) : own_upd (fun i => .int (f i)) k (.int v) i = .int (if i = k then v else f i) := by
  by_cases q : i = k
  · rw [own_upd_hit q, if_pos q]
  · rw [own_upd_miss q, if_neg q]
theorem own_k3 {kk : Nat} (h : kk ≤ 2) : Int32.ofNat kk < (268435456 : Int32) ∧ (Int32.ofNat kk + (1 : Int32)) = Int32.ofNat (kk + 1) := by
  have : kk = 0 ∨ kk = 1 ∨ kk = 2 := by omega
  rcases this with rfl | rfl | rfl <;> decide
theorem own_le6 {b kk : Nat} (hb : 5 ≤ b ∧ b ≤ 12) (h : kk ≤ 2) : ¬ ((Int32.ofNat (2 ^ b)).toInt64 < ((2 : Int64) * (Int32.ofNat (kk + 1)).toInt64)) := by
  have : kk = 0 ∨ kk = 1 ∨ kk = 2 := by omega
  rcases this with rfl | rfl | rfl
  · exact own_b8 (P := fun b => ¬ ((Int32.ofNat (2 ^ b)).toInt64 < ((2 : Int64) * (Int32.ofNat (0 + 1)).toInt64))) (by decide +kernel) hb
  · exact own_b8 (P := fun b => ¬ ((Int32.ofNat (2 ^ b)).toInt64 < ((2 : Int64) * (Int32.ofNat (1 + 1)).toInt64))) (by decide +kernel) hb
  · exact own_b8 (P := fun b => ¬ ((Int32.ofNat (2 ^ b)).toInt64 < ((2 : Int64) * (Int32.ofNat (2 + 1)).toInt64))) (by decide +kernel) hb

theorem own_Av.toV {Z : State} {h : Heap} {a : Addr} {n : Nat} {f : Nat → Int64} (F : own_Av Z h a .long n (fun i => .long (f i))) (hn : n < 2147483648) : ∃ k, Arv Z h a k .long (Int32.ofNat n) ((List.range n).map fun i => .long (f i)) (.long 0) := by
  obtain ⟨c, A, S, H⟩ := F
  have q : ∀ i, i < n → ((List.range n).map fun i => (Value.long (f i))).getD i (.long 0) = .long (f i) := fun i hi => by simp [List.getD_eq_getElem?_getD, hi]
  refine ⟨c.cls, c, A, rfl, by rw [S]; exact (own_ix hn).2.symm, (own_ix hn).1, fun i hi => ?_, fun i hi => ?_⟩
  · rw [S] at hi; rw [q i hi]; exact H i hi
  · rw [S] at hi; rw [q i hi]; rfl
theorem own_Av.ofV {Z : State} {h : Heap} {a : Addr} {n : Nat} {k : ClassId} {vs : List Value} {d : Value} (F : Arv Z h a k .long (Int32.ofNat n) vs d) (hn : n < 2147483648) : own_Av Z h a .long n (fun i => vs.getD i d) := by
  obtain ⟨c, A, -, S, -, H, -⟩ := F
  rw [(own_ix hn).2] at S
  exact ⟨c, A, S, fun i hi => H i (by rw [S]; exact hi)⟩
theorem own_cpJ {p : Program} {l : Launch} {e : Env} {R : Room} {s : State} {m : MethodId} {args : Array Value} {below : List Frame} {meth : Method} {c : Code} {T : State} {locs : List Loc} {cells slots : Nat} {Z : State} {h : Heap} {a b : Addr}
    (X : Stand p l e R s m args below meth c T locs cells slots) (hx : p.tables.exec = Jvm.exec) (hZ : Z.Warmed39 s.vm) {a0 : Array Value} {own : String} {index : Nat} (hown : s.vm.findClass own = some m.cls)
    (w1 : (Cond.methodLink own index Jvm.Stand.acN).before a0 Z = true) (w2 : (Cond.native Jvm.Stand.acN).before a0 Z = true) (w3 : (Cond.static Jvm.Stand.acN).before a0 Z = true) (w4 : (Cond.initialized "java/lang/System").before a0 Z = true) (eT : T.heap = h)
    {n kk : Nat} {fi : Nat → Int64} (A : own_Av Z h a .long n (fun i => .long (fi i))) (B : own_Av Z h b .long kk (fun _ => .long (0 : Int64))) (hk : kk ≤ n) (hn : n < 2147483648) {n0 : Nat} (N : Fr n0 locs) (ge : n0 ≤ b)
    {g : JFrame} (hg : g.method = m) (hsize : g.locals.size = c.maxLocals) {rest : List Value} (hs : g.stack = .int (Int32.ofNat kk) :: .int (0 : Int32) :: .ref b :: .int (0 : Int32) :: .ref a :: rest) (hd : decode c.code g.pc = .ok (.invokestatic index, 3))
    (hf : 1 ≤ R.frames) {W : Nat} (hW : 2 * g.monitorRoom + (rest.map fun v => v.category).sum ≤ W) (hlo : W + (nativeFrameWords "java/lang/System" "arraycopy" 5 + 11) ≤ R.locals) :
    ∃ T' h' L f', Stand p l e R s m args below meth c T' L cells slots ∧ T'.heap = h' ∧ Fr n0 L ∧ Keep h h' [b] ∧ own_Av Z h' b .long kk f' ∧
      ∀ target, Steps p.tables e below (T'.setTop { g with pc := g.pc + 3, stack := rest }) target → Steps p.tables e below (T.setTop g) target := by
  have hkk : kk < 2147483648 := by omega
  obtain ⟨k1, A'⟩ := A.toV hn
  obtain ⟨k2, B'⟩ := B.toV (f := fun _ => 0) hkk
  have e0 : (0 : Int32).toNatClampNeg = 0 := by decide
  obtain ⟨T', h', L, X', e', N', K', F', st⟩ := cpA X hx hZ hown w1 w2 w3 w4 eT A' B' (Or.inl ⟨rfl, rfl⟩) (by decide) (by decide) (own_ix hkk).1 (by rw [e0, (own_ix hkk).2, (own_ix hn).2]; omega) (by rw [e0, (own_ix hkk).2]; omega) rfl (by rw [e0, (own_ix hkk).2]; simp) N ge hg hsize hs hd hf hW hlo
  exact ⟨T', h', L, _, X', e', N', K', own_Av.ofV F' hkk, st⟩
def own_FinW (s : State) (Q : Option Value → Heap → List Loc → Prop) (k j : Nat) (o : Outcome) (U' : State) : Prop :=
  ∃ v L, o = .returned v ∧ Q v U'.heap L ∧ ReturnedEndW s o U' L k j
theorem own_toW {p : Program} {e : Env} {below : List Frame} {s T : State} {g : JFrame} {Q : Option Value → Heap → List Loc → Prop} {k j : Nat} {vm1 : Vm} {k1 : Nat} (hS : s.Since vm1 k1)
    (G : own_Go p e below T g (own_Fin (s.setVm vm1) (fun v h L => Q v h L ∧ k1 ≤ h.size) k j)) : own_Go p e below T g (own_FinW s Q k j) := by
  obtain ⟨s₂, o, h1, h2, h3, v, L, h4, ⟨h5, h6⟩, h7⟩ := G
  obtain ⟨q1, q2, q3⟩ := h7
  obtain ⟨r1, r2, r3⟩ := hS.ended (U := s₂) q2 h6 q3
  exact ⟨s₂, o, h1, h2, h3, v, L, h4, h5, q1, r1, r2, r3⟩
theorem own_startW {p : Program} {e : Env} {below : List Frame} {s T : State} {g g' : JFrame} {Q : Option Value → Heap → List Loc → Prop} {k j : Nat} (hg : g = g')
    (h : own_Go p e below T g' (own_FinW s Q k j)) : ∃ s₂ o, Steps p.tables e below (T.setTop g) s₂ ∧ s₂.status = .running ∧ Ended s₂ below o ∧ ∃ v L, o = .returned v ∧ Q v s₂.heap L ∧ ReturnedEndW s o s₂ L k j := by
  subst hg
  exact h

def own_f1 (u0 : Int32) (u1 : Int32) : Int32 := (if u0 < u1 then u1 else u0)
theorem own_d1_0 : decode jdk_29_method_65_code 0 = .ok (.iload_n 0, 1) := by decide +kernel
theorem own_d1_1 : decode jdk_29_method_65_code 1 = .ok (.iload_n 1, 1) := by decide +kernel
theorem own_d1_2 : decode jdk_29_method_65_code 2 = .ok (.if_icmp .lt 7, 3) := by decide +kernel
theorem own_d1_5 : decode jdk_29_method_65_code 5 = .ok (.iload_n 0, 1) := by decide +kernel
theorem own_d1_6 : decode jdk_29_method_65_code 6 = .ok (.goto 4, 3) := by decide +kernel
theorem own_d1_9 : decode jdk_29_method_65_code 9 = .ok (.iload_n 1, 1) := by decide +kernel
theorem own_d1_10 : decode jdk_29_method_65_code 10 = .ok (.ireturn, 1) := by decide +kernel
theorem own_ef1 (m : MethodId) (u0 : Int32) (u1 : Int32) : entryFrame m #[(.int u0), (.int u1)] 2 = mkF m 0 #[.val (.int u0), .val (.int u1)] [] := by first | (simp [entryFrame, mkF, argsToLocals, Value.category]; done) | rfl
def own_q_own_r1 (Z : State) (u0 : Int32) (u1 : Int32) (h0 : Heap) (n0 : Nat) (v : Option Value) (h : Heap) (L : List Loc) : Prop := v = some (.int (own_f1 u0 u1)) ∧ Fr n0 L ∧ h = h0
set_option maxRecDepth 65536 in
set_option maxHeartbeats 40000000 in
theorem own_r1 (l : Launch) (Z : State) (a0 : Array Value) (hw : ∀ d ∈ tables_1, d.before a0 Z = true) (ws : List Jvm.Cond) (u0 : Int32) (u1 : Int32) (h0 : Heap) (n0 : Nat) (Z0 : n0 ≤ h0.size) :
    MetFree l (⟨"java/lang/Math", "max", "(II)I"⟩ : MethodName) (head1 (Jvm.Cond.code (⟨"java/lang/Math", "max", "(II)I"⟩ : MethodName) jdk_29_method_65_code 2 (some .int) :: ws) ({ frames := 0, cells := 0, slots := 0, locals := 0 } : Room)) (fun aq Uq => aq = #[(.int u0), (.int u1)] ∧ Z.Warmed39 Uq.vm ∧ Uq.heap = h0) (fun _ _ _ _ _ => True) (fun _ Uq oq Uq' => ∃ vq Lq, oq = .returned vq ∧ own_q_own_r1 Z u0 u1 h0 n0 vq Uq'.heap Lq ∧ FrameEnd Uq oq Uq' Lq ({ frames := 0, cells := 0, slots := 0, locals := 0 } : Room).cells ({ frames := 0, cells := 0, slots := 0, locals := 0 } : Room).slots) := by
  refine MetFree.of_bodySF (Jvm.Free.JP.mathPlain rfl (by decide +kernel)) hisR ?_
  intro p e s m args below meth c T0 Bd hml0 hP hK
  obtain ⟨rfl, hZ, hh⟩ := hP
  have hx := Bd.exec
  have hby := Bd.bytes
  have hml : c.maxLocals = 2 := hml0
  have hown : s.vm.findClass "java/lang/Math" = some m.cls := findClass_of_methodNamed Bd.named
  have hnm := (name_of_methodNamed Bd.named Bd.method).1
  have hret : meth.sig.returnType = (some .int) := Bd.returns
  have hlk : meth.locks = false := BodyLoose.notSynchronized Bd
  have X0 : Stand p l e ({ frames := 0, cells := 0, slots := 0, locals := 0 } : Room) s m #[(.int u0), (.int u1)] below meth c T0 [] 0 0 := Stand.of_body Bd
  have e0 : T0.heap = h0 := by rw [← hh, Bd.state]; rfl
  have N0 := Fr.nil n0
  refine own_start (own_ef1 m u0 u1) (Q := fun (v : Option Value) (h : Heap) (L : List Loc) => v = some (.int (own_f1 u0 u1)) ∧ Fr n0 L ∧ h = h0) (k := 0) (j := 0) ?_
  show own_Go p e below T0 (mkF m 0 #[.val (.int u0), .val (.int u1)] []) _
  refine own_s_iloadN X0.here hx (hb hby own_d1_0) rfl ?_
  refine own_s_iloadN X0.here hx (hb hby own_d1_1) rfl ?_
  by_cases hc2 : u0 < u1
  ·
    show own_Go p e below T0 (mkF m 2 #[.val (.int u0), .val (.int u1)] [(.int u1), (.int u0)]) _
    refine own_s_icmpYes X0.here hx 9 (hb hby own_d1_2) (Jvm.Free.XT.ii_lt_t hc2) (by decide) (by decide) ?_
    refine own_s_iloadN X0.here hx (hb hby own_d1_9) rfl ?_
    refine own_retI X0 hx hret hlk (hb hby own_d1_10) (by decide) (by decide) ?_
    exact ⟨by unfold own_f1; rw [if_pos hc2], N0, e0⟩
  ·
    refine own_s_icmpNo X0.here hx (hb hby own_d1_2) (Jvm.Free.XT.ii_lt_f hc2) ?_
    refine own_s_iloadN X0.here hx (hb hby own_d1_5) rfl ?_
    show own_Go p e below T0 (mkF m 6 #[.val (.int u0), .val (.int u1)] [(.int u0)]) _
    refine own_s_goto X0.here hx 10 (hb hby own_d1_6) (by decide) (by decide) ?_
    refine own_retI X0 hx hret hlk (hb hby own_d1_10) (by decide) (by decide) ?_
    exact ⟨by unfold own_f1; rw [if_neg hc2], N0, e0⟩
def own_f15 (u0 : Int32) (u1 : Int32) : Int32 := (if u1 < u0 then u1 else u0)
theorem own_d15_0 : decode jdk_29_method_69_code 0 = .ok (.iload_n 0, 1) := by decide +kernel
theorem own_d15_1 : decode jdk_29_method_69_code 1 = .ok (.iload_n 1, 1) := by decide +kernel
theorem own_d15_2 : decode jdk_29_method_69_code 2 = .ok (.if_icmp .gt 7, 3) := by decide +kernel
theorem own_d15_5 : decode jdk_29_method_69_code 5 = .ok (.iload_n 0, 1) := by decide +kernel
theorem own_d15_6 : decode jdk_29_method_69_code 6 = .ok (.goto 4, 3) := by decide +kernel
theorem own_d15_9 : decode jdk_29_method_69_code 9 = .ok (.iload_n 1, 1) := by decide +kernel
theorem own_d15_10 : decode jdk_29_method_69_code 10 = .ok (.ireturn, 1) := by decide +kernel
theorem own_ef15 (m : MethodId) (u0 : Int32) (u1 : Int32) : entryFrame m #[(.int u0), (.int u1)] 2 = mkF m 0 #[.val (.int u0), .val (.int u1)] [] := by first | (simp [entryFrame, mkF, argsToLocals, Value.category]; done) | rfl
def own_q_own_r15 (Z : State) (u0 : Int32) (u1 : Int32) (h0 : Heap) (n0 : Nat) (v : Option Value) (h : Heap) (L : List Loc) : Prop := v = some (.int (own_f15 u0 u1)) ∧ Fr n0 L ∧ h = h0
set_option maxRecDepth 65536 in
set_option maxHeartbeats 40000000 in
theorem own_r15 (l : Launch) (Z : State) (a0 : Array Value) (hw : ∀ d ∈ tables_1, d.before a0 Z = true) (ws : List Jvm.Cond) (u0 : Int32) (u1 : Int32) (h0 : Heap) (n0 : Nat) (Z0 : n0 ≤ h0.size) :
    MetFree l (⟨"java/lang/Math", "min", "(II)I"⟩ : MethodName) (head1 (Jvm.Cond.code (⟨"java/lang/Math", "min", "(II)I"⟩ : MethodName) jdk_29_method_69_code 2 (some .int) :: ws) ({ frames := 0, cells := 0, slots := 0, locals := 0 } : Room)) (fun aq Uq => aq = #[(.int u0), (.int u1)] ∧ Z.Warmed39 Uq.vm ∧ Uq.heap = h0) (fun _ _ _ _ _ => True) (fun _ Uq oq Uq' => ∃ vq Lq, oq = .returned vq ∧ own_q_own_r15 Z u0 u1 h0 n0 vq Uq'.heap Lq ∧ FrameEnd Uq oq Uq' Lq ({ frames := 0, cells := 0, slots := 0, locals := 0 } : Room).cells ({ frames := 0, cells := 0, slots := 0, locals := 0 } : Room).slots) := by
  refine MetFree.of_bodySF (Jvm.Free.JP.mathPlain rfl (by decide +kernel)) hisR ?_
  intro p e s m args below meth c T0 Bd hml0 hP hK
  obtain ⟨rfl, hZ, hh⟩ := hP
  have hx := Bd.exec
  have hby := Bd.bytes
  have hml : c.maxLocals = 2 := hml0
  have hown : s.vm.findClass "java/lang/Math" = some m.cls := findClass_of_methodNamed Bd.named
  have hnm := (name_of_methodNamed Bd.named Bd.method).1
  have hret : meth.sig.returnType = (some .int) := Bd.returns
  have hlk : meth.locks = false := BodyLoose.notSynchronized Bd
  have X0 : Stand p l e ({ frames := 0, cells := 0, slots := 0, locals := 0 } : Room) s m #[(.int u0), (.int u1)] below meth c T0 [] 0 0 := Stand.of_body Bd
  have e0 : T0.heap = h0 := by rw [← hh, Bd.state]; rfl
  have N0 := Fr.nil n0
  refine own_start (own_ef15 m u0 u1) (Q := fun (v : Option Value) (h : Heap) (L : List Loc) => v = some (.int (own_f15 u0 u1)) ∧ Fr n0 L ∧ h = h0) (k := 0) (j := 0) ?_
  show own_Go p e below T0 (mkF m 0 #[.val (.int u0), .val (.int u1)] []) _
  refine own_s_iloadN X0.here hx (hb hby own_d15_0) rfl ?_
  refine own_s_iloadN X0.here hx (hb hby own_d15_1) rfl ?_
  by_cases hc2 : u1 < u0
  ·
    show own_Go p e below T0 (mkF m 2 #[.val (.int u0), .val (.int u1)] [(.int u1), (.int u0)]) _
    refine own_s_icmpYes X0.here hx 9 (hb hby own_d15_2) (Jvm.Free.XT.ii_gt_t hc2) (by decide) (by decide) ?_
    refine own_s_iloadN X0.here hx (hb hby own_d15_9) rfl ?_
    refine own_retI X0 hx hret hlk (hb hby own_d15_10) (by decide) (by decide) ?_
    exact ⟨by unfold own_f15; rw [if_pos hc2], N0, e0⟩
  ·
    refine own_s_icmpNo X0.here hx (hb hby own_d15_2) (Jvm.Free.XT.ii_gt_f hc2) ?_
    refine own_s_iloadN X0.here hx (hb hby own_d15_5) rfl ?_
    show own_Go p e below T0 (mkF m 6 #[.val (.int u0), .val (.int u1)] [(.int u0)]) _
    refine own_s_goto X0.here hx 10 (hb hby own_d15_6) (by decide) (by decide) ?_
    refine own_retI X0 hx hret hlk (hb hby own_d15_10) (by decide) (by decide) ?_
    exact ⟨by unfold own_f15; rw [if_neg hc2], N0, e0⟩
def own_z5 (x n : Int32) : Int32 := (n - ((x.toUInt32 >>> ((1 : Int32) &&& 31).toUInt32).toInt32))
theorem own_d6_0 : decode jdk_33_method_47_code 0 = .ok (.iload_n 0, 1) := by decide +kernel
theorem own_d6_1 : decode jdk_33_method_47_code 1 = .ok (.ifCond .gt 14, 3) := by decide +kernel
theorem own_d6_4 : decode jdk_33_method_47_code 4 = .ok (.iload_n 0, 1) := by decide +kernel
theorem own_d6_5 : decode jdk_33_method_47_code 5 = .ok (.ifCond .ne 8, 3) := by decide +kernel
theorem own_d6_8 : decode jdk_33_method_47_code 8 = .ok (.bipush 32, 2) := by decide +kernel
theorem own_d6_10 : decode jdk_33_method_47_code 10 = .ok (.goto 4, 3) := by decide +kernel
theorem own_d6_13 : decode jdk_33_method_47_code 13 = .ok (.iconst 0, 1) := by decide +kernel
theorem own_d6_14 : decode jdk_33_method_47_code 14 = .ok (.ireturn, 1) := by decide +kernel
theorem own_d6_15 : decode jdk_33_method_47_code 15 = .ok (.bipush 31, 2) := by decide +kernel
theorem own_d6_17 : decode jdk_33_method_47_code 17 = .ok (.istore_n 1, 1) := by decide +kernel
theorem own_d6_18 : decode jdk_33_method_47_code 18 = .ok (.iload_n 0, 1) := by decide +kernel
theorem own_d6_19 : decode jdk_33_method_47_code 19 = .ok (.ldc_w 264, 3) := by decide +kernel
theorem own_d6_22 : decode jdk_33_method_47_code 22 = .ok (.if_icmp .lt 11, 3) := by decide +kernel
theorem own_d6_25 : decode jdk_33_method_47_code 25 = .ok (.iinc 1 (-16), 3) := by decide +kernel
theorem own_d6_28 : decode jdk_33_method_47_code 28 = .ok (.iload_n 0, 1) := by decide +kernel
theorem own_d6_29 : decode jdk_33_method_47_code 29 = .ok (.bipush 16, 2) := by decide +kernel
theorem own_d6_31 : decode jdk_33_method_47_code 31 = .ok (.iushr, 1) := by decide +kernel
theorem own_d6_32 : decode jdk_33_method_47_code 32 = .ok (.istore_n 0, 1) := by decide +kernel
theorem own_d6_33 : decode jdk_33_method_47_code 33 = .ok (.iload_n 0, 1) := by decide +kernel
theorem own_d6_34 : decode jdk_33_method_47_code 34 = .ok (.sipush 256, 3) := by decide +kernel
theorem own_d6_37 : decode jdk_33_method_47_code 37 = .ok (.if_icmp .lt 11, 3) := by decide +kernel
theorem own_d6_40 : decode jdk_33_method_47_code 40 = .ok (.iinc 1 (-8), 3) := by decide +kernel
theorem own_d6_43 : decode jdk_33_method_47_code 43 = .ok (.iload_n 0, 1) := by decide +kernel
theorem own_d6_44 : decode jdk_33_method_47_code 44 = .ok (.bipush 8, 2) := by decide +kernel
theorem own_d6_46 : decode jdk_33_method_47_code 46 = .ok (.iushr, 1) := by decide +kernel
theorem own_d6_47 : decode jdk_33_method_47_code 47 = .ok (.istore_n 0, 1) := by decide +kernel
theorem own_d6_48 : decode jdk_33_method_47_code 48 = .ok (.iload_n 0, 1) := by decide +kernel
theorem own_d6_49 : decode jdk_33_method_47_code 49 = .ok (.bipush 16, 2) := by decide +kernel
theorem own_d6_51 : decode jdk_33_method_47_code 51 = .ok (.if_icmp .lt 10, 3) := by decide +kernel
theorem own_d6_54 : decode jdk_33_method_47_code 54 = .ok (.iinc 1 (-4), 3) := by decide +kernel
theorem own_d6_57 : decode jdk_33_method_47_code 57 = .ok (.iload_n 0, 1) := by decide +kernel
theorem own_d6_58 : decode jdk_33_method_47_code 58 = .ok (.iconst 4, 1) := by decide +kernel
theorem own_d6_59 : decode jdk_33_method_47_code 59 = .ok (.iushr, 1) := by decide +kernel
theorem own_d6_60 : decode jdk_33_method_47_code 60 = .ok (.istore_n 0, 1) := by decide +kernel
theorem own_d6_61 : decode jdk_33_method_47_code 61 = .ok (.iload_n 0, 1) := by decide +kernel
theorem own_d6_62 : decode jdk_33_method_47_code 62 = .ok (.iconst 4, 1) := by decide +kernel
theorem own_d6_63 : decode jdk_33_method_47_code 63 = .ok (.if_icmp .lt 10, 3) := by decide +kernel
theorem own_d6_66 : decode jdk_33_method_47_code 66 = .ok (.iinc 1 (-2), 3) := by decide +kernel
theorem own_d6_69 : decode jdk_33_method_47_code 69 = .ok (.iload_n 0, 1) := by decide +kernel
theorem own_d6_70 : decode jdk_33_method_47_code 70 = .ok (.iconst 2, 1) := by decide +kernel
theorem own_d6_71 : decode jdk_33_method_47_code 71 = .ok (.iushr, 1) := by decide +kernel
theorem own_d6_72 : decode jdk_33_method_47_code 72 = .ok (.istore_n 0, 1) := by decide +kernel
theorem own_d6_73 : decode jdk_33_method_47_code 73 = .ok (.iload_n 1, 1) := by decide +kernel
theorem own_d6_74 : decode jdk_33_method_47_code 74 = .ok (.iload_n 0, 1) := by decide +kernel
theorem own_d6_75 : decode jdk_33_method_47_code 75 = .ok (.iconst 1, 1) := by decide +kernel
theorem own_d6_76 : decode jdk_33_method_47_code 76 = .ok (.iushr, 1) := by decide +kernel
theorem own_d6_77 : decode jdk_33_method_47_code 77 = .ok (.isub, 1) := by decide +kernel
theorem own_d6_78 : decode jdk_33_method_47_code 78 = .ok (.ireturn, 1) := by decide +kernel
theorem own_pn_Integer : plainName "java/lang/Integer" = true := by first | (simp [plainName, overriddenIn]; done) | decide +kernel
set_option maxRecDepth 65536 in
set_option maxHeartbeats 40000000 in
theorem own_pz5 {p : Program} {l : Launch} {e : Env} {s : State} {m : MethodId} {args : Array Value} {below : List Frame} {meth : Method} {c : Code} {Z : State} {a0 : Array Value} {n0 : Nat} (hx : p.tables.exec = Jvm.exec) (hZ : Z.Warmed39 s.vm) (hw : ∀ d ∈ tables_1, d.before a0 Z = true) (hby : c.code = jdk_33_method_47_code) (hml : c.maxLocals = 2) (hown : s.vm.findClass "java/lang/Integer" = some m.cls) (hnm : meth.name = "numberOfLeadingZeros") (hret : meth.sig.returnType = (some .int)) (hlk : meth.locks = false) (x n : Int32) {T0 : State} {locs : List Loc} {h0 : Heap} (X0 : Stand p l e ({ frames := 0, cells := 0, slots := 0, locals := 0 } : Room) s m args below meth c T0 locs 0 0) (e0 : T0.heap = h0) (N0 : Fr n0 locs) (Z0 : n0 ≤ h0.size) :
    own_Go p e below T0 (mkF m 73 #[.val (.int x), .val (.int n)] []) (own_Fin s (fun (v : Option Value) (h : Heap) (L : List Loc) => v = some (.int (own_z5 x n)) ∧ Fr n0 L ∧ h = h0) 0 0) := by
  show own_Go p e below T0 (mkF m 73 #[.val (.int x), .val (.int n)] []) _
  refine own_s_iloadN X0.here hx (hb hby own_d6_73) rfl ?_
  refine own_s_iloadN X0.here hx (hb hby own_d6_74) rfl ?_
  refine own_s_iconst X0.here hx (1 : Int32) (hb hby own_d6_75) rfl ?_
  refine own_s_iushr X0.here hx (hb hby own_d6_76) ?_
  refine own_s_isub X0.here hx (hb hby own_d6_77) ?_
  refine own_retI X0 hx hret hlk (hb hby own_d6_78) (by decide) (by decide) ?_
  exact ⟨rfl, N0, e0⟩
def own_z4 (x n : Int32) : Int32 := (if x < (4 : Int32) then own_z5 x n else own_z5 ((x.toUInt32 >>> ((2 : Int32) &&& 31).toUInt32).toInt32) (n + (-2 : Int32)))
set_option maxRecDepth 65536 in
set_option maxHeartbeats 40000000 in
theorem own_pz4 {p : Program} {l : Launch} {e : Env} {s : State} {m : MethodId} {args : Array Value} {below : List Frame} {meth : Method} {c : Code} {Z : State} {a0 : Array Value} {n0 : Nat} (hx : p.tables.exec = Jvm.exec) (hZ : Z.Warmed39 s.vm) (hw : ∀ d ∈ tables_1, d.before a0 Z = true) (hby : c.code = jdk_33_method_47_code) (hml : c.maxLocals = 2) (hown : s.vm.findClass "java/lang/Integer" = some m.cls) (hnm : meth.name = "numberOfLeadingZeros") (hret : meth.sig.returnType = (some .int)) (hlk : meth.locks = false) (x n : Int32) {T0 : State} {locs : List Loc} {h0 : Heap} (X0 : Stand p l e ({ frames := 0, cells := 0, slots := 0, locals := 0 } : Room) s m args below meth c T0 locs 0 0) (e0 : T0.heap = h0) (N0 : Fr n0 locs) (Z0 : n0 ≤ h0.size) :
    own_Go p e below T0 (mkF m 61 #[.val (.int x), .val (.int n)] []) (own_Fin s (fun (v : Option Value) (h : Heap) (L : List Loc) => v = some (.int (own_z4 x n)) ∧ Fr n0 L ∧ h = h0) 0 0) := by
  show own_Go p e below T0 (mkF m 61 #[.val (.int x), .val (.int n)] []) _
  refine own_s_iloadN X0.here hx (hb hby own_d6_61) rfl ?_
  refine own_s_iconst X0.here hx (4 : Int32) (hb hby own_d6_62) rfl ?_
  by_cases hc63 : x < (4 : Int32)
  ·
    show own_Go p e below T0 (mkF m 63 #[.val (.int x), .val (.int n)] [(.int (4 : Int32)), (.int x)]) _
    refine own_s_icmpYes X0.here hx 73 (hb hby own_d6_63) (Jvm.Free.XT.ii_lt_t hc63) (by decide) (by decide) ?_
    have own_e : own_z4 x n = own_z5 x n := by unfold own_z4; rw [if_pos hc63]
    rw [own_e]
    exact own_pz5 hx hZ hw hby hml hown hnm hret hlk  x n X0 e0 N0 Z0 
  ·
    refine own_s_icmpNo X0.here hx (hb hby own_d6_63) (Jvm.Free.XT.ii_lt_f hc63) ?_
    refine own_by (fun tq_ kq_ => XS.iinc X0.here hx rfl (hb hby own_d6_66) rfl (l' := #[.val (.int x), .val (.int (n + (-2 : Int32)))]) rfl kq_) ?_
    show own_Go p e below T0 (mkF m 69 #[.val (.int x), .val (.int (n + (-2 : Int32)))] []) _
    refine own_s_iloadN X0.here hx (hb hby own_d6_69) rfl ?_
    refine own_s_iconst X0.here hx (2 : Int32) (hb hby own_d6_70) rfl ?_
    refine own_s_iushr X0.here hx (hb hby own_d6_71) ?_
    refine own_s_istoreN X0.here hx #[.val (.int ((x.toUInt32 >>> ((2 : Int32) &&& 31).toUInt32).toInt32)), .val (.int (n + (-2 : Int32)))] (hb hby own_d6_72) rfl ?_
    have own_e : own_z4 x n = own_z5 ((x.toUInt32 >>> ((2 : Int32) &&& 31).toUInt32).toInt32) (n + (-2 : Int32)) := by unfold own_z4; rw [if_neg hc63]
    rw [own_e]
    exact own_pz5 hx hZ hw hby hml hown hnm hret hlk  ((x.toUInt32 >>> ((2 : Int32) &&& 31).toUInt32).toInt32) (n + (-2 : Int32)) X0 e0 N0 Z0 
def own_z3 (x n : Int32) : Int32 := (if x < (16 : Int32) then own_z4 x n else own_z4 ((x.toUInt32 >>> ((4 : Int32) &&& 31).toUInt32).toInt32) (n + (-4 : Int32)))
set_option maxRecDepth 65536 in
set_option maxHeartbeats 40000000 in
theorem own_pz3 {p : Program} {l : Launch} {e : Env} {s : State} {m : MethodId} {args : Array Value} {below : List Frame} {meth : Method} {c : Code} {Z : State} {a0 : Array Value} {n0 : Nat} (hx : p.tables.exec = Jvm.exec) (hZ : Z.Warmed39 s.vm) (hw : ∀ d ∈ tables_1, d.before a0 Z = true) (hby : c.code = jdk_33_method_47_code) (hml : c.maxLocals = 2) (hown : s.vm.findClass "java/lang/Integer" = some m.cls) (hnm : meth.name = "numberOfLeadingZeros") (hret : meth.sig.returnType = (some .int)) (hlk : meth.locks = false) (x n : Int32) {T0 : State} {locs : List Loc} {h0 : Heap} (X0 : Stand p l e ({ frames := 0, cells := 0, slots := 0, locals := 0 } : Room) s m args below meth c T0 locs 0 0) (e0 : T0.heap = h0) (N0 : Fr n0 locs) (Z0 : n0 ≤ h0.size) :
    own_Go p e below T0 (mkF m 48 #[.val (.int x), .val (.int n)] []) (own_Fin s (fun (v : Option Value) (h : Heap) (L : List Loc) => v = some (.int (own_z3 x n)) ∧ Fr n0 L ∧ h = h0) 0 0) := by
  show own_Go p e below T0 (mkF m 48 #[.val (.int x), .val (.int n)] []) _
  refine own_s_iloadN X0.here hx (hb hby own_d6_48) rfl ?_
  refine own_s_bipush X0.here hx (16 : Int32) (hb hby own_d6_49) rfl ?_
  by_cases hc51 : x < (16 : Int32)
  ·
    show own_Go p e below T0 (mkF m 51 #[.val (.int x), .val (.int n)] [(.int (16 : Int32)), (.int x)]) _
    refine own_s_icmpYes X0.here hx 61 (hb hby own_d6_51) (Jvm.Free.XT.ii_lt_t hc51) (by decide) (by decide) ?_
    have own_e : own_z3 x n = own_z4 x n := by unfold own_z3; rw [if_pos hc51]
    rw [own_e]
    exact own_pz4 hx hZ hw hby hml hown hnm hret hlk  x n X0 e0 N0 Z0 
  ·
    refine own_s_icmpNo X0.here hx (hb hby own_d6_51) (Jvm.Free.XT.ii_lt_f hc51) ?_
    refine own_by (fun tq_ kq_ => XS.iinc X0.here hx rfl (hb hby own_d6_54) rfl (l' := #[.val (.int x), .val (.int (n + (-4 : Int32)))]) rfl kq_) ?_
    show own_Go p e below T0 (mkF m 57 #[.val (.int x), .val (.int (n + (-4 : Int32)))] []) _
    refine own_s_iloadN X0.here hx (hb hby own_d6_57) rfl ?_
    refine own_s_iconst X0.here hx (4 : Int32) (hb hby own_d6_58) rfl ?_
    refine own_s_iushr X0.here hx (hb hby own_d6_59) ?_
    refine own_s_istoreN X0.here hx #[.val (.int ((x.toUInt32 >>> ((4 : Int32) &&& 31).toUInt32).toInt32)), .val (.int (n + (-4 : Int32)))] (hb hby own_d6_60) rfl ?_
    have own_e : own_z3 x n = own_z4 ((x.toUInt32 >>> ((4 : Int32) &&& 31).toUInt32).toInt32) (n + (-4 : Int32)) := by unfold own_z3; rw [if_neg hc51]
    rw [own_e]
    exact own_pz4 hx hZ hw hby hml hown hnm hret hlk  ((x.toUInt32 >>> ((4 : Int32) &&& 31).toUInt32).toInt32) (n + (-4 : Int32)) X0 e0 N0 Z0 
def own_z2 (x n : Int32) : Int32 := (if x < (256 : Int32) then own_z3 x n else own_z3 ((x.toUInt32 >>> ((8 : Int32) &&& 31).toUInt32).toInt32) (n + (-8 : Int32)))
set_option maxRecDepth 65536 in
set_option maxHeartbeats 40000000 in
theorem own_pz2 {p : Program} {l : Launch} {e : Env} {s : State} {m : MethodId} {args : Array Value} {below : List Frame} {meth : Method} {c : Code} {Z : State} {a0 : Array Value} {n0 : Nat} (hx : p.tables.exec = Jvm.exec) (hZ : Z.Warmed39 s.vm) (hw : ∀ d ∈ tables_1, d.before a0 Z = true) (hby : c.code = jdk_33_method_47_code) (hml : c.maxLocals = 2) (hown : s.vm.findClass "java/lang/Integer" = some m.cls) (hnm : meth.name = "numberOfLeadingZeros") (hret : meth.sig.returnType = (some .int)) (hlk : meth.locks = false) (x n : Int32) {T0 : State} {locs : List Loc} {h0 : Heap} (X0 : Stand p l e ({ frames := 0, cells := 0, slots := 0, locals := 0 } : Room) s m args below meth c T0 locs 0 0) (e0 : T0.heap = h0) (N0 : Fr n0 locs) (Z0 : n0 ≤ h0.size) :
    own_Go p e below T0 (mkF m 33 #[.val (.int x), .val (.int n)] []) (own_Fin s (fun (v : Option Value) (h : Heap) (L : List Loc) => v = some (.int (own_z2 x n)) ∧ Fr n0 L ∧ h = h0) 0 0) := by
  show own_Go p e below T0 (mkF m 33 #[.val (.int x), .val (.int n)] []) _
  refine own_s_iloadN X0.here hx (hb hby own_d6_33) rfl ?_
  refine own_s_sipush X0.here hx (256 : Int32) (hb hby own_d6_34) rfl ?_
  by_cases hc37 : x < (256 : Int32)
  ·
    show own_Go p e below T0 (mkF m 37 #[.val (.int x), .val (.int n)] [(.int (256 : Int32)), (.int x)]) _
    refine own_s_icmpYes X0.here hx 48 (hb hby own_d6_37) (Jvm.Free.XT.ii_lt_t hc37) (by decide) (by decide) ?_
    have own_e : own_z2 x n = own_z3 x n := by unfold own_z2; rw [if_pos hc37]
    rw [own_e]
    exact own_pz3 hx hZ hw hby hml hown hnm hret hlk  x n X0 e0 N0 Z0 
  ·
    refine own_s_icmpNo X0.here hx (hb hby own_d6_37) (Jvm.Free.XT.ii_lt_f hc37) ?_
    refine own_by (fun tq_ kq_ => XS.iinc X0.here hx rfl (hb hby own_d6_40) rfl (l' := #[.val (.int x), .val (.int (n + (-8 : Int32)))]) rfl kq_) ?_
    show own_Go p e below T0 (mkF m 43 #[.val (.int x), .val (.int (n + (-8 : Int32)))] []) _
    refine own_s_iloadN X0.here hx (hb hby own_d6_43) rfl ?_
    refine own_s_bipush X0.here hx (8 : Int32) (hb hby own_d6_44) rfl ?_
    refine own_s_iushr X0.here hx (hb hby own_d6_46) ?_
    refine own_s_istoreN X0.here hx #[.val (.int ((x.toUInt32 >>> ((8 : Int32) &&& 31).toUInt32).toInt32)), .val (.int (n + (-8 : Int32)))] (hb hby own_d6_47) rfl ?_
    have own_e : own_z2 x n = own_z3 ((x.toUInt32 >>> ((8 : Int32) &&& 31).toUInt32).toInt32) (n + (-8 : Int32)) := by unfold own_z2; rw [if_neg hc37]
    rw [own_e]
    exact own_pz3 hx hZ hw hby hml hown hnm hret hlk  ((x.toUInt32 >>> ((8 : Int32) &&& 31).toUInt32).toInt32) (n + (-8 : Int32)) X0 e0 N0 Z0 
def own_z1 (x n : Int32) : Int32 := (if x < (65536 : Int32) then own_z2 x n else own_z2 ((x.toUInt32 >>> ((16 : Int32) &&& 31).toUInt32).toInt32) (n + (-16 : Int32)))
set_option maxRecDepth 65536 in
set_option maxHeartbeats 40000000 in
theorem own_pz1 {p : Program} {l : Launch} {e : Env} {s : State} {m : MethodId} {args : Array Value} {below : List Frame} {meth : Method} {c : Code} {Z : State} {a0 : Array Value} {n0 : Nat} (hx : p.tables.exec = Jvm.exec) (hZ : Z.Warmed39 s.vm) (hw : ∀ d ∈ tables_1, d.before a0 Z = true) (hby : c.code = jdk_33_method_47_code) (hml : c.maxLocals = 2) (hown : s.vm.findClass "java/lang/Integer" = some m.cls) (hnm : meth.name = "numberOfLeadingZeros") (hret : meth.sig.returnType = (some .int)) (hlk : meth.locks = false) (x n : Int32) {T0 : State} {locs : List Loc} {h0 : Heap} (X0 : Stand p l e ({ frames := 0, cells := 0, slots := 0, locals := 0 } : Room) s m args below meth c T0 locs 0 0) (e0 : T0.heap = h0) (N0 : Fr n0 locs) (Z0 : n0 ≤ h0.size) :
    own_Go p e below T0 (mkF m 18 #[.val (.int x), .val (.int n)] []) (own_Fin s (fun (v : Option Value) (h : Heap) (L : List Loc) => v = some (.int (own_z1 x n)) ∧ Fr n0 L ∧ h = h0) 0 0) := by
  show own_Go p e below T0 (mkF m 18 #[.val (.int x), .val (.int n)] []) _
  refine own_s_iloadN X0.here hx (hb hby own_d6_18) rfl ?_
  refine own_by (fun tq_ kq_ => X0.ldcwInt hx hown (mvT hZ (hw _ (List.mem_of_getElem? (i := 42) rfl))) (g := (mkF m 19 #[.val (.int x), .val (.int n)] [(.int x)])) rfl (hb hby own_d6_19) tq_ kq_) ?_
  show own_Go p e below T0 (mkF m 22 #[.val (.int x), .val (.int n)] [(.int (65536 : Int32)), (.int x)]) _
  by_cases hc22 : x < (65536 : Int32)
  ·
    refine own_s_icmpYes X0.here hx 33 (hb hby own_d6_22) (Jvm.Free.XT.ii_lt_t hc22) (by decide) (by decide) ?_
    have own_e : own_z1 x n = own_z2 x n := by unfold own_z1; rw [if_pos hc22]
    rw [own_e]
    exact own_pz2 hx hZ hw hby hml hown hnm hret hlk  x n X0 e0 N0 Z0 
  ·
    refine own_s_icmpNo X0.here hx (hb hby own_d6_22) (Jvm.Free.XT.ii_lt_f hc22) ?_
    refine own_by (fun tq_ kq_ => XS.iinc X0.here hx rfl (hb hby own_d6_25) rfl (l' := #[.val (.int x), .val (.int (n + (-16 : Int32)))]) rfl kq_) ?_
    show own_Go p e below T0 (mkF m 28 #[.val (.int x), .val (.int (n + (-16 : Int32)))] []) _
    refine own_s_iloadN X0.here hx (hb hby own_d6_28) rfl ?_
    refine own_s_bipush X0.here hx (16 : Int32) (hb hby own_d6_29) rfl ?_
    refine own_s_iushr X0.here hx (hb hby own_d6_31) ?_
    refine own_s_istoreN X0.here hx #[.val (.int ((x.toUInt32 >>> ((16 : Int32) &&& 31).toUInt32).toInt32)), .val (.int (n + (-16 : Int32)))] (hb hby own_d6_32) rfl ?_
    have own_e : own_z1 x n = own_z2 ((x.toUInt32 >>> ((16 : Int32) &&& 31).toUInt32).toInt32) (n + (-16 : Int32)) := by unfold own_z1; rw [if_neg hc22]
    rw [own_e]
    exact own_pz2 hx hZ hw hby hml hown hnm hret hlk  ((x.toUInt32 >>> ((16 : Int32) &&& 31).toUInt32).toInt32) (n + (-16 : Int32)) X0 e0 N0 Z0 
def own_f6 (x : Int32) : Int32 := (if 0 < x then own_z1 x (31 : Int32) else (if x = 0 then (32 : Int32) else (0 : Int32)))
theorem own_ef6 (m : MethodId) (x_ : Int32) : entryFrame m #[(.int x_)] 2 = mkF m 0 #[.val (.int x_), .unset] [] := by first | (simp [entryFrame, mkF, argsToLocals, Value.category]; done) | rfl
def own_q_own_r6 (Z : State) (x_ : Int32) (h0 : Heap) (n0 : Nat) (v : Option Value) (h : Heap) (L : List Loc) : Prop := v = some (.int (own_f6 x_)) ∧ Fr n0 L ∧ h = h0
set_option maxRecDepth 65536 in
set_option maxHeartbeats 40000000 in
theorem own_r6 (l : Launch) (Z : State) (a0 : Array Value) (hw : ∀ d ∈ tables_1, d.before a0 Z = true) (ws : List Jvm.Cond) (x_ : Int32) (h0 : Heap) (n0 : Nat) (Z0 : n0 ≤ h0.size) :
    MetFree l (⟨"java/lang/Integer", "numberOfLeadingZeros", "(I)I"⟩ : MethodName) (head1 (Jvm.Cond.code (⟨"java/lang/Integer", "numberOfLeadingZeros", "(I)I"⟩ : MethodName) jdk_33_method_47_code 2 (some .int) :: ws) ({ frames := 0, cells := 0, slots := 0, locals := 0 } : Room)) (fun aq Uq => aq = #[(.int x_)] ∧ Z.Warmed39 Uq.vm ∧ Uq.heap = h0) (fun _ _ _ _ _ => True) (fun _ Uq oq Uq' => ∃ vq Lq, oq = .returned vq ∧ own_q_own_r6 Z x_ h0 n0 vq Uq'.heap Lq ∧ FrameEnd Uq oq Uq' Lq ({ frames := 0, cells := 0, slots := 0, locals := 0 } : Room).cells ({ frames := 0, cells := 0, slots := 0, locals := 0 } : Room).slots) := by
  refine MetFree.of_bodySF (plainFor_of_name own_pn_Integer) hisR ?_
  intro p e s m args below meth c T0 Bd hml0 hP hK
  obtain ⟨rfl, hZ, hh⟩ := hP
  have hx := Bd.exec
  have hby := Bd.bytes
  have hml : c.maxLocals = 2 := hml0
  have hown : s.vm.findClass "java/lang/Integer" = some m.cls := findClass_of_methodNamed Bd.named
  have hnm := (name_of_methodNamed Bd.named Bd.method).1
  have hret : meth.sig.returnType = (some .int) := Bd.returns
  have hlk : meth.locks = false := BodyLoose.notSynchronized Bd
  have X0 : Stand p l e ({ frames := 0, cells := 0, slots := 0, locals := 0 } : Room) s m #[(.int x_)] below meth c T0 [] 0 0 := Stand.of_body Bd
  have e0 : T0.heap = h0 := by rw [← hh, Bd.state]; rfl
  have N0 := Fr.nil n0
  refine own_start (own_ef6 m x_) (Q := fun (v : Option Value) (h : Heap) (L : List Loc) => v = some (.int (own_f6 x_)) ∧ Fr n0 L ∧ h = h0) (k := 0) (j := 0) ?_
  show own_Go p e below T0 (mkF m 0 #[.val (.int x_), .unset] []) _
  refine own_s_iloadN X0.here hx (hb hby own_d6_0) rfl ?_
  by_cases hc1 : 0 < x_
  ·
    show own_Go p e below T0 (mkF m 1 #[.val (.int x_), .unset] [(.int x_)]) _
    refine own_s_ifYes X0.here hx 15 (hb hby own_d6_1) (Jvm.Free.XT.i0_gt_t hc1) (by decide) (by decide) ?_
    refine own_s_bipush X0.here hx (31 : Int32) (hb hby own_d6_15) rfl ?_
    refine own_s_istoreN X0.here hx #[.val (.int x_), .val (.int (31 : Int32))] (hb hby own_d6_17) rfl ?_
    have own_e : own_f6 x_ = own_z1 x_ (31 : Int32) := by unfold own_f6; rw [if_pos hc1]
    rw [own_e]
    exact own_pz1 hx hZ hw hby hml hown hnm hret hlk  x_ (31 : Int32) X0 e0 N0 Z0 
  ·
    refine own_s_ifNo X0.here hx (hb hby own_d6_1) (Jvm.Free.XT.i0_gt_f hc1) ?_
    refine own_s_iloadN X0.here hx (hb hby own_d6_4) rfl ?_
    by_cases hc5 : x_ = 0
    ·
      refine own_s_ifNo X0.here hx (hb hby own_d6_5) (Jvm.Free.XT.i0_ne_f hc5) ?_
      refine own_s_bipush X0.here hx (32 : Int32) (hb hby own_d6_8) rfl ?_
      show own_Go p e below T0 (mkF m 10 #[.val (.int x_), .unset] [(.int (32 : Int32))]) _
      refine own_s_goto X0.here hx 14 (hb hby own_d6_10) (by decide) (by decide) ?_
      refine own_retI X0 hx hret hlk (hb hby own_d6_14) (by decide) (by decide) ?_
      exact ⟨by unfold own_f6; rw [if_neg hc1, if_pos hc5], N0, e0⟩
    ·
      show own_Go p e below T0 (mkF m 5 #[.val (.int x_), .unset] [(.int x_)]) _
      refine own_s_ifYes X0.here hx 13 (hb hby own_d6_5) (Jvm.Free.XT.i0_ne_t hc5) (by decide) (by decide) ?_
      refine own_s_iconst X0.here hx (0 : Int32) (hb hby own_d6_13) rfl ?_
      refine own_retI X0 hx hret hlk (hb hby own_d6_14) (by decide) (by decide) ?_
      exact ⟨by unfold own_f6; rw [if_neg hc1, if_neg hc5], N0, e0⟩
def own_f5 (u0 : Int64) : Int32 := (if (((u0.toUInt64 >>> ((32 : Int32) &&& 0x3f).toInt64.toUInt64).toInt64).toInt32) = 0 then ((32 : Int32) + (own_f6 (u0.toInt32))) else (own_f6 (((u0.toUInt64 >>> ((32 : Int32) &&& 0x3f).toInt64.toUInt64).toInt64).toInt32)))
theorem own_d5_0 : decode jdk_35_method_48_code 0 = .ok (.lload_n 0, 1) := by decide +kernel
theorem own_d5_1 : decode jdk_35_method_48_code 1 = .ok (.bipush 32, 2) := by decide +kernel
theorem own_d5_3 : decode jdk_35_method_48_code 3 = .ok (.lushr, 1) := by decide +kernel
theorem own_d5_4 : decode jdk_35_method_48_code 4 = .ok (.l2i, 1) := by decide +kernel
theorem own_d5_5 : decode jdk_35_method_48_code 5 = .ok (.istore_n 2, 1) := by decide +kernel
theorem own_d5_6 : decode jdk_35_method_48_code 6 = .ok (.iload_n 2, 1) := by decide +kernel
theorem own_d5_7 : decode jdk_35_method_48_code 7 = .ok (.ifCond .ne 14, 3) := by decide +kernel
theorem own_d5_10 : decode jdk_35_method_48_code 10 = .ok (.bipush 32, 2) := by decide +kernel
theorem own_d5_12 : decode jdk_35_method_48_code 12 = .ok (.lload_n 0, 1) := by decide +kernel
theorem own_d5_13 : decode jdk_35_method_48_code 13 = .ok (.l2i, 1) := by decide +kernel
theorem own_d5_14 : decode jdk_35_method_48_code 14 = .ok (.invokestatic 308, 3) := by decide +kernel
theorem own_d5_17 : decode jdk_35_method_48_code 17 = .ok (.iadd, 1) := by decide +kernel
theorem own_d5_18 : decode jdk_35_method_48_code 18 = .ok (.goto 7, 3) := by decide +kernel
theorem own_d5_21 : decode jdk_35_method_48_code 21 = .ok (.iload_n 2, 1) := by decide +kernel
theorem own_d5_22 : decode jdk_35_method_48_code 22 = .ok (.invokestatic 308, 3) := by decide +kernel
theorem own_d5_25 : decode jdk_35_method_48_code 25 = .ok (.ireturn, 1) := by decide +kernel
theorem own_pn_Long : plainName "java/lang/Long" = true := by first | (simp [plainName, overriddenIn]; done) | decide +kernel
theorem own_ef5 (m : MethodId) (u0 : Int64) : entryFrame m #[(.long u0)] 3 = mkF m 0 #[.val (.long u0), .second, .unset] [] := by first | (simp [entryFrame, mkF, argsToLocals, Value.category]; done) | rfl
theorem own_pd_5 : parseMethodDescriptor "(I)I" = some ⟨[.int], some .int⟩ := by decide +kernel
def own_q_own_r5 (Z : State) (u0 : Int64) (h0 : Heap) (n0 : Nat) (v : Option Value) (h : Heap) (L : List Loc) : Prop := v = some (.int (own_f5 u0)) ∧ Fr n0 L ∧ h = h0
set_option maxRecDepth 65536 in
set_option maxHeartbeats 40000000 in
theorem own_r5 (l : Launch) (Z : State) (a0 : Array Value) (hw : ∀ d ∈ tables_1, d.before a0 Z = true) (ws : List Jvm.Cond) (u0 : Int64) (h0 : Heap) (n0 : Nat) (Z0 : n0 ≤ h0.size) :
    MetFree l (⟨"java/lang/Long", "numberOfLeadingZeros", "(J)I"⟩ : MethodName) (head1 (Jvm.Cond.code (⟨"java/lang/Long", "numberOfLeadingZeros", "(J)I"⟩ : MethodName) jdk_35_method_48_code 3 (some .int) :: ws) ({ frames := 1, cells := 0, slots := 0, locals := 14 } : Room)) (fun aq Uq => aq = #[(.long u0)] ∧ Z.Warmed39 Uq.vm ∧ Uq.heap = h0) (fun _ _ _ _ _ => True) (fun _ Uq oq Uq' => ∃ vq Lq, oq = .returned vq ∧ own_q_own_r5 Z u0 h0 n0 vq Uq'.heap Lq ∧ FrameEnd Uq oq Uq' Lq ({ frames := 1, cells := 0, slots := 0, locals := 14 } : Room).cells ({ frames := 1, cells := 0, slots := 0, locals := 14 } : Room).slots) := by
  refine MetFree.of_bodySF (plainFor_of_name own_pn_Long) hisR ?_
  intro p e s m args below meth c T0 Bd hml0 hP hK
  obtain ⟨rfl, hZ, hh⟩ := hP
  have hx := Bd.exec
  have hby := Bd.bytes
  have hml : c.maxLocals = 3 := hml0
  have hown : s.vm.findClass "java/lang/Long" = some m.cls := findClass_of_methodNamed Bd.named
  have hnm := (name_of_methodNamed Bd.named Bd.method).1
  have hret : meth.sig.returnType = (some .int) := Bd.returns
  have hlk : meth.locks = false := BodyLoose.notSynchronized Bd
  have X0 : Stand p l e ({ frames := 1, cells := 0, slots := 0, locals := 14 } : Room) s m #[(.long u0)] below meth c T0 [] 0 0 := Stand.of_body Bd
  have e0 : T0.heap = h0 := by rw [← hh, Bd.state]; rfl
  have N0 := Fr.nil n0
  refine own_start (own_ef5 m u0) (Q := fun (v : Option Value) (h : Heap) (L : List Loc) => v = some (.int (own_f5 u0)) ∧ Fr n0 L ∧ h = h0) (k := 0) (j := 0) ?_
  show own_Go p e below T0 (mkF m 0 #[.val (.long u0), .second, .unset] []) _
  refine own_s_lloadN X0.here hx (hb hby own_d5_0) rfl ?_
  refine own_s_bipush X0.here hx (32 : Int32) (hb hby own_d5_1) rfl ?_
  refine own_s_lushr X0.here hx (hb hby own_d5_3) ?_
  refine own_s_l2i X0.here hx (hb hby own_d5_4) ?_
  refine own_s_istoreN X0.here hx #[.val (.long u0), .second, .val (.int (((u0.toUInt64 >>> ((32 : Int32) &&& 0x3f).toInt64.toUInt64).toInt64).toInt32))] (hb hby own_d5_5) rfl ?_
  refine own_s_iloadN X0.here hx (hb hby own_d5_6) rfl ?_
  by_cases hc7 : (((u0.toUInt64 >>> ((32 : Int32) &&& 0x3f).toInt64.toUInt64).toInt64).toInt32) = 0
  ·
    refine own_s_ifNo X0.here hx (hb hby own_d5_7) (Jvm.Free.XT.i0_ne_f hc7) ?_
    refine own_s_bipush X0.here hx (32 : Int32) (hb hby own_d5_10) rfl ?_
    refine own_s_lloadN X0.here hx (hb hby own_d5_12) rfl ?_
    refine own_s_l2i X0.here hx (hb hby own_d5_13) ?_
    obtain ⟨_, _, ⟨T1, L1, k1, n1⟩, -, X1, ⟨Lc1, hQ1, l1, y1, z1⟩, st1⟩ := Jvm.LawKit.callS X0 hx (y := (⟨"java/lang/Integer", "numberOfLeadingZeros", "(I)I"⟩ : MethodName)) hown (mvT hZ (hw _ (List.mem_of_getElem? (i := 38) rfl))) (mvT hZ (hw _ (List.mem_of_getElem? (i := 39) rfl))) (mvT hZ (hw _ (List.mem_of_getElem? (i := 40) rfl))) (mvT hZ (hw _ (List.mem_of_getElem? (i := 41) rfl))) (by decide) (backOf (W := 1) (own_r6 l Z a0 hw [] (u0.toInt32)  h0 n0 Z0 ) hZ (hw _ (List.mem_of_getElem? (i := 41) rfl)) (hw _ (List.mem_of_getElem? (i := 40) rfl)) (by decide) (by decide)) (g := (mkF m 14 #[.val (.long u0), .second, .val (.int (((u0.toUInt64 >>> ((32 : Int32) &&& 0x3f).toInt64.toUInt64).toInt64).toInt32))] [(.int (u0.toInt32)), (.int (32 : Int32))])) rfl (by rw [hml]; rfl) (argsL := [(.int (u0.toInt32))]) (rest := [(.int (32 : Int32))]) (lenOf own_pd_5 rfl) rfl (by show 2 * 0 + _ ≤ _; exact Nat.le_of_eq rfl) (hb hby own_d5_14) (fun _ _ => ⟨rfl, e0, (by decide : 0 + 0 ≤ _), (by decide : 0 + 0 ≤ _)⟩)
    dsimp only [Pt.U, Pt.locs, Pt.cells, Pt.slots] at X1 l1 y1 z1 st1 hQ1
    subst l1 y1 z1
    obtain ⟨rfl, N1q, e1⟩ := hQ1
    have N1 := Fr.app N0 N1q
    refine own_by st1 ?_
    show own_Go p e below T1 (mkF m 17 #[.val (.long u0), .second, .val (.int (((u0.toUInt64 >>> ((32 : Int32) &&& 0x3f).toInt64.toUInt64).toInt64).toInt32))] [(.int (own_f6 (u0.toInt32))), (.int (32 : Int32))]) _
    refine own_s_iadd X1.here hx (hb hby own_d5_17) ?_
    show own_Go p e below T1 (mkF m 18 #[.val (.long u0), .second, .val (.int (((u0.toUInt64 >>> ((32 : Int32) &&& 0x3f).toInt64.toUInt64).toInt64).toInt32))] [(.int ((32 : Int32) + (own_f6 (u0.toInt32))))]) _
    refine own_s_goto X1.here hx 25 (hb hby own_d5_18) (by decide) (by decide) ?_
    refine own_retI X1 hx hret hlk (hb hby own_d5_25) (by decide) (by decide) ?_
    exact ⟨by unfold own_f5; rw [if_pos hc7], N1, e1⟩
  ·
    show own_Go p e below T0 (mkF m 7 #[.val (.long u0), .second, .val (.int (((u0.toUInt64 >>> ((32 : Int32) &&& 0x3f).toInt64.toUInt64).toInt64).toInt32))] [(.int (((u0.toUInt64 >>> ((32 : Int32) &&& 0x3f).toInt64.toUInt64).toInt64).toInt32))]) _
    refine own_s_ifYes X0.here hx 21 (hb hby own_d5_7) (Jvm.Free.XT.i0_ne_t hc7) (by decide) (by decide) ?_
    refine own_s_iloadN X0.here hx (hb hby own_d5_21) rfl ?_
    obtain ⟨_, _, ⟨T2, L2, k2, n2⟩, -, X2, ⟨Lc2, hQ2, l2, y2, z2⟩, st2⟩ := Jvm.LawKit.callS X0 hx (y := (⟨"java/lang/Integer", "numberOfLeadingZeros", "(I)I"⟩ : MethodName)) hown (mvT hZ (hw _ (List.mem_of_getElem? (i := 38) rfl))) (mvT hZ (hw _ (List.mem_of_getElem? (i := 39) rfl))) (mvT hZ (hw _ (List.mem_of_getElem? (i := 40) rfl))) (mvT hZ (hw _ (List.mem_of_getElem? (i := 41) rfl))) (by decide) (backOf (W := 0) (own_r6 l Z a0 hw [] (((u0.toUInt64 >>> ((32 : Int32) &&& 0x3f).toInt64.toUInt64).toInt64).toInt32)  h0 n0 Z0 ) hZ (hw _ (List.mem_of_getElem? (i := 41) rfl)) (hw _ (List.mem_of_getElem? (i := 40) rfl)) (by decide) (by decide)) (g := (mkF m 22 #[.val (.long u0), .second, .val (.int (((u0.toUInt64 >>> ((32 : Int32) &&& 0x3f).toInt64.toUInt64).toInt64).toInt32))] [(.int (((u0.toUInt64 >>> ((32 : Int32) &&& 0x3f).toInt64.toUInt64).toInt64).toInt32))])) rfl (by rw [hml]; rfl) (argsL := [(.int (((u0.toUInt64 >>> ((32 : Int32) &&& 0x3f).toInt64.toUInt64).toInt64).toInt32))]) (rest := []) (lenOf own_pd_5 rfl) rfl (by show 2 * 0 + _ ≤ _; exact Nat.le_of_eq rfl) (hb hby own_d5_22) (fun _ _ => ⟨rfl, e0, (by decide : 0 + 0 ≤ _), (by decide : 0 + 0 ≤ _)⟩)
    dsimp only [Pt.U, Pt.locs, Pt.cells, Pt.slots] at X2 l2 y2 z2 st2 hQ2
    subst l2 y2 z2
    obtain ⟨rfl, N2q, e2⟩ := hQ2
    have N2 := Fr.app N0 N2q
    refine own_by st2 ?_
    show own_Go p e below T2 (mkF m 25 #[.val (.long u0), .second, .val (.int (((u0.toUInt64 >>> ((32 : Int32) &&& 0x3f).toInt64.toUInt64).toInt64).toInt32))] [(.int (own_f6 (((u0.toUInt64 >>> ((32 : Int32) &&& 0x3f).toInt64.toUInt64).toInt64).toInt32)))]) _
    refine own_retI X2 hx hret hlk (hb hby own_d5_25) (by decide) (by decide) ?_
    exact ⟨by unfold own_f5; rw [if_neg hc7], N2, e2⟩
def own_bn (n : Nat) : Nat := ((64 : Int32) - (own_f5 (((2 : Int64) * ((Int32.ofNat n).toInt64)) - (1 : Int64)))).toInt.toNat
def own_tn (n : Nat) : Nat := 2 ^ own_bn n
theorem own_bnF : ∀ i : Fin 2048, 16 ≤ i.val → (5 ≤ own_bn i.val ∧ own_bn i.val ≤ 12) ∧ ((64 : Int32) - (own_f5 (((2 : Int64) * ((Int32.ofNat i.val).toInt64)) - (1 : Int64)))) = Int32.ofNat (own_bn i.val) ∧ 2 * i.val ≤ own_tn i.val ∧ own_tn i.val < 4 * i.val := by decide +kernel
theorem own_bnh {n : Nat} (h : 16 ≤ n ∧ n ≤ 2047) : (5 ≤ own_bn n ∧ own_bn n ≤ 12) ∧ ((64 : Int32) - (own_f5 (((2 : Int64) * ((Int32.ofNat n).toInt64)) - (1 : Int64)))) = Int32.ofNat (own_bn n) ∧ 2 * n ≤ own_tn n ∧ own_tn n < 4 * n := own_bnF ⟨n, by omega⟩ h.1
theorem own_d7_0 : decode jdk_65_method_103_code 0 = .ok (.iconst 0, 1) := by decide +kernel
theorem own_d7_1 : decode jdk_65_method_103_code 1 = .ok (.istore_n 2, 1) := by decide +kernel
theorem own_d7_2 : decode jdk_65_method_103_code 2 = .ok (.aload_n 0, 1) := by decide +kernel
theorem own_d7_3 : decode jdk_65_method_103_code 3 = .ok (.arraylength, 1) := by decide +kernel
theorem own_d7_4 : decode jdk_65_method_103_code 4 = .ok (.istore_n 3, 1) := by decide +kernel
theorem own_d7_5 : decode jdk_65_method_103_code 5 = .ok (.iload_n 2, 1) := by decide +kernel
theorem own_d7_6 : decode jdk_65_method_103_code 6 = .ok (.iload_n 3, 1) := by decide +kernel
theorem own_d7_7 : decode jdk_65_method_103_code 7 = .ok (.if_icmp .ge 13, 3) := by decide +kernel
theorem own_d7_10 : decode jdk_65_method_103_code 10 = .ok (.aload_n 0, 1) := by decide +kernel
theorem own_d7_11 : decode jdk_65_method_103_code 11 = .ok (.iload_n 2, 1) := by decide +kernel
theorem own_d7_12 : decode jdk_65_method_103_code 12 = .ok (.iload_n 1, 1) := by decide +kernel
theorem own_d7_13 : decode jdk_65_method_103_code 13 = .ok (.iastore, 1) := by decide +kernel
theorem own_d7_14 : decode jdk_65_method_103_code 14 = .ok (.iinc 2 1, 3) := by decide +kernel
theorem own_d7_17 : decode jdk_65_method_103_code 17 = .ok (.goto (-12), 3) := by decide +kernel
theorem own_d7_20 : decode jdk_65_method_103_code 20 = .ok (.return_, 1) := by decide +kernel
theorem own_pn_Arrays : plainName "java/util/Arrays" = true := by first | (simp [plainName, overriddenIn]; done) | decide +kernel
set_option maxRecDepth 65536 in
set_option maxHeartbeats 40000000 in
theorem own_fil_x {p : Program} {l : Launch} {e : Env} {s : State} {m : MethodId} {args : Array Value} {below : List Frame} {meth : Method} {c : Code} {Z : State} {a0 : Array Value} {n0 : Nat} (hx : p.tables.exec = Jvm.exec) (hZ : Z.Warmed39 s.vm) (hw : ∀ d ∈ tables_1, d.before a0 Z = true) (hby : c.code = jdk_65_method_103_code) (hml : c.maxLocals = 4) (hown : s.vm.findClass "java/util/Arrays" = some m.cls) (hnm : meth.name = "fill") (hret : meth.sig.returnType = none) (hlk : meth.locks = false) (hs : Heap) (i : Nat) (a_ : Addr) (v_ : Int32) (n : Nat) (g_ : Nat → Value) {T0 : State} {locs : List Loc} {h0 : Heap} (X0 : Stand p l e ({ frames := 0, cells := 0, slots := 0, locals := 0 } : Room) s m args below meth c T0 locs 0 0) (e0 : T0.heap = h0) (N0 : Fr n0 locs) (Z0 : n0 ≤ h0.size) (hn : n < 2147483648) (ge_a : n0 ≤ a_) (hin : i = n) (F0 : own_Av Z h0 a_ .int n (own_fl (fun _ => v_) i g_)) (F1 : Keep hs h0 [a_]) :
    own_Go p e below T0 (mkF m 5 #[.val (.ref a_), .val (.int v_), .val (.int (Int32.ofNat i)), .val (.int (Int32.ofNat n))] []) (own_Fin s (fun (v : Option Value) (h : Heap) (L : List Loc) => v = none ∧ Fr n0 L ∧ Keep hs h [a_] ∧ own_Av Z h a_ .int n (fun _ => .int v_)) 0 0) := by
  show own_Go p e below T0 (mkF m 5 #[.val (.ref a_), .val (.int v_), .val (.int (Int32.ofNat i)), .val (.int (Int32.ofNat n))] []) _
  refine own_s_iloadN X0.here hx (hb hby own_d7_5) rfl ?_
  refine own_s_iloadN X0.here hx (hb hby own_d7_6) rfl ?_
  show own_Go p e below T0 (mkF m 7 #[.val (.ref a_), .val (.int v_), .val (.int (Int32.ofNat i)), .val (.int (Int32.ofNat n))] [(.int (Int32.ofNat n)), (.int (Int32.ofNat i))]) _
  refine own_s_icmpYes X0.here hx 20 (hb hby own_d7_7) (Jvm.Free.XT.ii_ge_t ((fun q => absurd ((own_oflt (by omega) (by omega)).mp q) (by omega)))) (by decide) (by decide) ?_
  refine own_retV X0 hx hret hlk (hb hby own_d7_20) (by decide) (by decide) ?_
  rw [e0]
  exact ⟨rfl, N0, F1, F0.cong rfl (fun j hj => own_fl_in (by omega))⟩
set_option maxRecDepth 65536 in
set_option maxHeartbeats 40000000 in
theorem own_fil_t {p : Program} {l : Launch} {e : Env} {s : State} {m : MethodId} {args : Array Value} {below : List Frame} {meth : Method} {c : Code} {Z : State} {a0 : Array Value} {n0 : Nat} (hx : p.tables.exec = Jvm.exec) (hZ : Z.Warmed39 s.vm) (hw : ∀ d ∈ tables_1, d.before a0 Z = true) (hby : c.code = jdk_65_method_103_code) (hml : c.maxLocals = 4) (hown : s.vm.findClass "java/util/Arrays" = some m.cls) (hnm : meth.name = "fill") (hret : meth.sig.returnType = none) (hlk : meth.locks = false) (hs : Heap) (i : Nat) (a_ : Addr) (v_ : Int32) (n : Nat) (g_ : Nat → Value) {T0 : State} {locs : List Loc} {h0 : Heap} (X0 : Stand p l e ({ frames := 0, cells := 0, slots := 0, locals := 0 } : Room) s m args below meth c T0 locs 0 0) (e0 : T0.heap = h0) (N0 : Fr n0 locs) (Z0 : n0 ≤ h0.size) (hn : n < 2147483648) (ge_a : n0 ≤ a_) (hin : i < n) (F0 : own_Av Z h0 a_ .int n (own_fl (fun _ => v_) i g_)) (F1 : Keep hs h0 [a_]) (hnext : ∀ (T1 : State) (locs1 : List Loc) (h1 : Heap), Stand p l e ({ frames := 0, cells := 0, slots := 0, locals := 0 } : Room) s m args below meth c T1 locs1 0 0 → T1.heap = h1 → Fr n0 locs1 → n0 ≤ h1.size → own_Av Z h1 a_ .int n (own_fl (fun _ => v_) (i + 1) g_) → Keep hs h1 [a_] → own_Go p e below T1 (mkF m 5 #[.val (.ref a_), .val (.int v_), .val (.int (Int32.ofNat (i + 1))), .val (.int (Int32.ofNat n))] []) (own_Fin s (fun (v : Option Value) (h : Heap) (L : List Loc) => v = none ∧ Fr n0 L ∧ Keep hs h [a_] ∧ own_Av Z h a_ .int n (fun _ => .int v_)) 0 0)) :
    own_Go p e below T0 (mkF m 5 #[.val (.ref a_), .val (.int v_), .val (.int (Int32.ofNat i)), .val (.int (Int32.ofNat n))] []) (own_Fin s (fun (v : Option Value) (h : Heap) (L : List Loc) => v = none ∧ Fr n0 L ∧ Keep hs h [a_] ∧ own_Av Z h a_ .int n (fun _ => .int v_)) 0 0) := by
  show own_Go p e below T0 (mkF m 5 #[.val (.ref a_), .val (.int v_), .val (.int (Int32.ofNat i)), .val (.int (Int32.ofNat n))] []) _
  refine own_s_iloadN X0.here hx (hb hby own_d7_5) rfl ?_
  refine own_s_iloadN X0.here hx (hb hby own_d7_6) rfl ?_
  refine own_s_icmpNo X0.here hx (hb hby own_d7_7) (Jvm.Free.XT.ii_ge_f (((own_oflt (by omega) (by omega)).mpr hin))) ?_
  refine own_s_aloadN X0.here hx (hb hby own_d7_10) rfl rfl ?_
  refine own_s_iloadN X0.here hx (hb hby own_d7_11) rfl ?_
  refine own_s_iloadN X0.here hx (hb hby own_d7_12) rfl ?_
  obtain ⟨T3, h3, X3, e3, W3, fa3, st3⟩ := own_stI X0 hx hZ e0 F0 (k := i) (own_ix (by omega)) hin (g := (mkF m 13 #[.val (.ref a_), .val (.int v_), .val (.int (Int32.ofNat i)), .val (.int (Int32.ofNat n))] [(.int v_), (.int (Int32.ofNat i)), (.ref a_)])) rfl rfl (hb hby own_d7_13)
  have N3 := Fr.snoc X3 N0 ge_a
  have SZ3 : n0 ≤ h3.size := by rw [W3.size]; exact Z0
  have K3 := F1.wr W3 (Or.inl (List.mem_of_getElem? (i := 0) rfl))
  refine own_by st3 ?_
  show own_Go p e below T3 (mkF m 14 #[.val (.ref a_), .val (.int v_), .val (.int (Int32.ofNat i)), .val (.int (Int32.ofNat n))] []) _
  refine own_by (fun tq_ kq_ => XS.iinc X3.here hx rfl (hb hby own_d7_14) rfl (l' := #[.val (.ref a_), .val (.int v_), .val (.int ((Int32.ofNat i) + (1 : Int32))), .val (.int (Int32.ofNat n))]) rfl kq_) ?_
  show own_Go p e below T3 (mkF m 17 #[.val (.ref a_), .val (.int v_), .val (.int ((Int32.ofNat i) + (1 : Int32))), .val (.int (Int32.ofNat n))] []) _
  refine own_s_goto X3.here hx 5 (hb hby own_d7_17) (by decide) (by decide) ?_
  rw [own_ofs]
  exact hnext _ _ _ X3 e3 N3 SZ3 (fa3.cong rfl (fun j _ => own_fl_up (fun _ => v_) i g_ j)) K3
set_option maxRecDepth 65536 in
set_option maxHeartbeats 40000000 in
theorem own_fil {p : Program} {l : Launch} {e : Env} {s : State} {m : MethodId} {args : Array Value} {below : List Frame} {meth : Method} {c : Code} {Z : State} {a0 : Array Value} {n0 : Nat} (hx : p.tables.exec = Jvm.exec) (hZ : Z.Warmed39 s.vm) (hw : ∀ d ∈ tables_1, d.before a0 Z = true) (hby : c.code = jdk_65_method_103_code) (hml : c.maxLocals = 4) (hown : s.vm.findClass "java/util/Arrays" = some m.cls) (hnm : meth.name = "fill") (hret : meth.sig.returnType = none) (hlk : meth.locks = false) (hs : Heap) (a_ : Addr) (v_ : Int32) (n : Nat) (g_ : Nat → Value) (hn : n < 2147483648) (ge_a : n0 ≤ a_) : ∀ (r i : Nat) (hin : i + r = n) {T0 : State} {locs : List Loc} {h0 : Heap} (X0 : Stand p l e ({ frames := 0, cells := 0, slots := 0, locals := 0 } : Room) s m args below meth c T0 locs 0 0) (e0 : T0.heap = h0) (N0 : Fr n0 locs) (Z0 : n0 ≤ h0.size) (F0 : own_Av Z h0 a_ .int n (own_fl (fun _ => v_) i g_)) (F1 : Keep hs h0 [a_]),
    own_Go p e below T0 (mkF m 5 #[.val (.ref a_), .val (.int v_), .val (.int (Int32.ofNat i)), .val (.int (Int32.ofNat n))] []) (own_Fin s (fun (v : Option Value) (h : Heap) (L : List Loc) => v = none ∧ Fr n0 L ∧ Keep hs h [a_] ∧ own_Av Z h a_ .int n (fun _ => .int v_)) 0 0) := by
  intro r
  induction r with
  | zero =>
    intro i hin T0 locs h0 X0 e0 N0 Z0 F0 F1
    exact own_fil_x hx hZ hw hby hml hown hnm hret hlk hs i a_ v_ n g_ X0 e0 N0 Z0 hn ge_a (by omega) F0 F1
  | succ r ih =>
    intro i hin T0 locs h0 X0 e0 N0 Z0 F0 F1
    exact own_fil_t hx hZ hw hby hml hown hnm hret hlk hs i a_ v_ n g_ X0 e0 N0 Z0 hn ge_a (by omega) F0 F1 (fun T1 locs1 h1 X1 e1 N1 Z1 G0 G1 => ih (i + 1) (by omega) X1 e1 N1 Z1 G0 G1)
theorem own_ef7 (m : MethodId) (a_ : Addr) (v_ : Int32) : entryFrame m #[(.ref a_), (.int v_)] 4 = mkF m 0 #[.val (.ref a_), .val (.int v_), .unset, .unset] [] := by first | (simp [entryFrame, mkF, argsToLocals, Value.category]; done) | rfl
def own_q_own_r7 (Z : State) (a_ : Addr) (v_ : Int32) (n : Nat) (f : Nat → Value) (h0 : Heap) (n0 : Nat) (v : Option Value) (h : Heap) (L : List Loc) : Prop := v = none ∧ Fr n0 L ∧ Keep h0 h [a_] ∧ own_Av Z h a_ .int n (fun _ => .int v_)
set_option maxRecDepth 65536 in
set_option maxHeartbeats 40000000 in
theorem own_r7 (l : Launch) (Z : State) (a0 : Array Value) (hw : ∀ d ∈ tables_1, d.before a0 Z = true) (ws : List Jvm.Cond) (a_ : Addr) (v_ : Int32) (n : Nat) (f : Nat → Value) (h0 : Heap) (n0 : Nat) (Z0 : n0 ≤ h0.size) (hn : n < 2147483648) (A_a_ : own_Av Z h0 a_ .int n f) (ge_a_ : n0 ≤ a_) :
    MetFree l (⟨"java/util/Arrays", "fill", "([II)V"⟩ : MethodName) (head1 (Jvm.Cond.code (⟨"java/util/Arrays", "fill", "([II)V"⟩ : MethodName) jdk_65_method_103_code 4 none :: ws) ({ frames := 0, cells := 0, slots := 0, locals := 0 } : Room)) (fun aq Uq => aq = #[(.ref a_), (.int v_)] ∧ Z.Warmed39 Uq.vm ∧ Uq.heap = h0) (fun _ _ _ _ _ => True) (fun _ Uq oq Uq' => ∃ vq Lq, oq = .returned vq ∧ own_q_own_r7 Z a_ v_ n f h0 n0 vq Uq'.heap Lq ∧ FrameEnd Uq oq Uq' Lq ({ frames := 0, cells := 0, slots := 0, locals := 0 } : Room).cells ({ frames := 0, cells := 0, slots := 0, locals := 0 } : Room).slots) := by
  refine MetFree.of_bodySF (plainFor_of_name own_pn_Arrays) hisR ?_
  intro p e s m args below meth c T0 Bd hml0 hP hK
  obtain ⟨rfl, hZ, hh⟩ := hP
  have hx := Bd.exec
  have hby := Bd.bytes
  have hml : c.maxLocals = 4 := hml0
  have hown : s.vm.findClass "java/util/Arrays" = some m.cls := findClass_of_methodNamed Bd.named
  have hnm := (name_of_methodNamed Bd.named Bd.method).1
  have hret : meth.sig.returnType = none := Bd.returns
  have hlk : meth.locks = false := BodyLoose.notSynchronized Bd
  have X0 : Stand p l e ({ frames := 0, cells := 0, slots := 0, locals := 0 } : Room) s m #[(.ref a_), (.int v_)] below meth c T0 [] 0 0 := Stand.of_body Bd
  have e0 : T0.heap = h0 := by rw [← hh, Bd.state]; rfl
  have N0 := Fr.nil n0
  refine own_start (own_ef7 m a_ v_) (Q := fun (v : Option Value) (h : Heap) (L : List Loc) => v = none ∧ Fr n0 L ∧ Keep h0 h [a_] ∧ own_Av Z h a_ .int n (fun _ => .int v_)) (k := 0) (j := 0) ?_
  show own_Go p e below T0 (mkF m 0 #[.val (.ref a_), .val (.int v_), .unset, .unset] []) _
  have K0 := Keep.refl h0 [a_]
  refine own_s_iconst X0.here hx (0 : Int32) (hb hby own_d7_0) rfl ?_
  refine own_s_istoreN X0.here hx #[.val (.ref a_), .val (.int v_), .val (.int (0 : Int32)), .unset] (hb hby own_d7_1) rfl ?_
  refine own_s_aloadN X0.here hx (hb hby own_d7_2) rfl rfl ?_
  refine own_by (fun tq_ kq_ => own_len X0 hx hZ e0 A_a_ (z := (Int32.ofNat n)) rfl (g := (mkF m 3 #[.val (.ref a_), .val (.int v_), .val (.int (0 : Int32)), .unset] [(.ref a_)])) rfl rfl (hb hby own_d7_3) tq_ kq_) ?_
  show own_Go p e below T0 (mkF m 4 #[.val (.ref a_), .val (.int v_), .val (.int (0 : Int32)), .unset] [(.int (Int32.ofNat n))]) _
  refine own_s_istoreN X0.here hx #[.val (.ref a_), .val (.int v_), .val (.int (0 : Int32)), .val (.int (Int32.ofNat n))] (hb hby own_d7_4) rfl ?_
  show own_Go p e below T0 (mkF m 5 #[.val (.ref a_), .val (.int v_), .val (.int (Int32.ofNat 0)), .val (.int (Int32.ofNat n))] []) _
  exact own_fil hx hZ hw hby hml hown hnm hret hlk h0 a_ v_ n f hn ge_a_ n 0 (by omega) X0 e0 N0 Z0 (A_a_.cong rfl (fun j _ => own_fl0 (fun _ => v_) f j)) K0
theorem own_d4_0 : decode prog_15_method_13_code 0 = .ok (.aload_n 0, 1) := by decide +kernel
theorem own_d4_1 : decode prog_15_method_13_code 1 = .ok (.getfield 31, 3) := by decide +kernel
theorem own_d4_4 : decode prog_15_method_13_code 4 = .ok (.astore_n 2, 1) := by decide +kernel
theorem own_d4_5 : decode prog_15_method_13_code 5 = .ok (.bipush 64, 2) := by decide +kernel
theorem own_d4_7 : decode prog_15_method_13_code 7 = .ok (.ldc2_w 84, 3) := by decide +kernel
theorem own_d4_10 : decode prog_15_method_13_code 10 = .ok (.iload_n 1, 1) := by decide +kernel
theorem own_d4_11 : decode prog_15_method_13_code 11 = .ok (.i2l, 1) := by decide +kernel
theorem own_d4_12 : decode prog_15_method_13_code 12 = .ok (.lmul, 1) := by decide +kernel
theorem own_d4_13 : decode prog_15_method_13_code 13 = .ok (.lconst 1, 1) := by decide +kernel
theorem own_d4_14 : decode prog_15_method_13_code 14 = .ok (.lsub, 1) := by decide +kernel
theorem own_d4_15 : decode prog_15_method_13_code 15 = .ok (.invokestatic 91, 3) := by decide +kernel
theorem own_d4_18 : decode prog_15_method_13_code 18 = .ok (.isub, 1) := by decide +kernel
theorem own_d4_19 : decode prog_15_method_13_code 19 = .ok (.istore_n 3, 1) := by decide +kernel
theorem own_d4_20 : decode prog_15_method_13_code 20 = .ok (.aload_n 0, 1) := by decide +kernel
theorem own_d4_21 : decode prog_15_method_13_code 21 = .ok (.iconst 1, 1) := by decide +kernel
theorem own_d4_22 : decode prog_15_method_13_code 22 = .ok (.iload_n 3, 1) := by decide +kernel
theorem own_d4_23 : decode prog_15_method_13_code 23 = .ok (.ishl, 1) := by decide +kernel
theorem own_d4_24 : decode prog_15_method_13_code 24 = .ok (.newarray .int, 2) := by decide +kernel
theorem own_d4_26 : decode prog_15_method_13_code 26 = .ok (.putfield 31, 3) := by decide +kernel
theorem own_d4_29 : decode prog_15_method_13_code 29 = .ok (.aload_n 0, 1) := by decide +kernel
theorem own_d4_30 : decode prog_15_method_13_code 30 = .ok (.getfield 31, 3) := by decide +kernel
theorem own_d4_33 : decode prog_15_method_13_code 33 = .ok (.iconst (-1), 1) := by decide +kernel
theorem own_d4_34 : decode prog_15_method_13_code 34 = .ok (.invokestatic 94, 3) := by decide +kernel
theorem own_d4_37 : decode prog_15_method_13_code 37 = .ok (.aload_n 0, 1) := by decide +kernel
theorem own_d4_38 : decode prog_15_method_13_code 38 = .ok (.bipush 64, 2) := by decide +kernel
theorem own_d4_40 : decode prog_15_method_13_code 40 = .ok (.iload_n 3, 1) := by decide +kernel
theorem own_d4_41 : decode prog_15_method_13_code 41 = .ok (.isub, 1) := by decide +kernel
theorem own_d4_42 : decode prog_15_method_13_code 42 = .ok (.putfield 88, 3) := by decide +kernel
theorem own_d4_45 : decode prog_15_method_13_code 45 = .ok (.aload_n 2, 1) := by decide +kernel
theorem own_d4_46 : decode prog_15_method_13_code 46 = .ok (.ifnull 58, 3) := by decide +kernel
theorem own_d4_49 : decode prog_15_method_13_code 49 = .ok (.aload_n 2, 1) := by decide +kernel
theorem own_d4_50 : decode prog_15_method_13_code 50 = .ok (.astore 4, 2) := by decide +kernel
theorem own_d4_52 : decode prog_15_method_13_code 52 = .ok (.aload 4, 2) := by decide +kernel
theorem own_d4_54 : decode prog_15_method_13_code 54 = .ok (.arraylength, 1) := by decide +kernel
theorem own_d4_55 : decode prog_15_method_13_code 55 = .ok (.istore 5, 2) := by decide +kernel
theorem own_d4_57 : decode prog_15_method_13_code 57 = .ok (.iconst 0, 1) := by decide +kernel
theorem own_d4_58 : decode prog_15_method_13_code 58 = .ok (.istore 6, 2) := by decide +kernel
theorem own_d4_60 : decode prog_15_method_13_code 60 = .ok (.iload 6, 2) := by decide +kernel
theorem own_d4_62 : decode prog_15_method_13_code 62 = .ok (.iload 5, 2) := by decide +kernel
theorem own_d4_64 : decode prog_15_method_13_code 64 = .ok (.if_icmp .ge 40, 3) := by decide +kernel
theorem own_d4_67 : decode prog_15_method_13_code 67 = .ok (.aload 4, 2) := by decide +kernel
theorem own_d4_69 : decode prog_15_method_13_code 69 = .ok (.iload 6, 2) := by decide +kernel
theorem own_d4_71 : decode prog_15_method_13_code 71 = .ok (.iaload, 1) := by decide +kernel
theorem own_d4_72 : decode prog_15_method_13_code 72 = .ok (.istore 7, 2) := by decide +kernel
theorem own_d4_74 : decode prog_15_method_13_code 74 = .ok (.iload 7, 2) := by decide +kernel
theorem own_d4_76 : decode prog_15_method_13_code 76 = .ok (.iconst (-1), 1) := by decide +kernel
theorem own_d4_77 : decode prog_15_method_13_code 77 = .ok (.if_icmp .eq 21, 3) := by decide +kernel
theorem own_d4_80 : decode prog_15_method_13_code 80 = .ok (.aload_n 0, 1) := by decide +kernel
theorem own_d4_81 : decode prog_15_method_13_code 81 = .ok (.getfield 31, 3) := by decide +kernel
theorem own_d4_84 : decode prog_15_method_13_code 84 = .ok (.aload_n 0, 1) := by decide +kernel
theorem own_d4_85 : decode prog_15_method_13_code 85 = .ok (.aload_n 0, 1) := by decide +kernel
theorem own_d4_86 : decode prog_15_method_13_code 86 = .ok (.getfield 19, 3) := by decide +kernel
theorem own_d4_89 : decode prog_15_method_13_code 89 = .ok (.iload 7, 2) := by decide +kernel
theorem own_d4_91 : decode prog_15_method_13_code 91 = .ok (.laload, 1) := by decide +kernel
theorem own_d4_92 : decode prog_15_method_13_code 92 = .ok (.invokevirtual 35, 3) := by decide +kernel
theorem own_d4_95 : decode prog_15_method_13_code 95 = .ok (.iload 7, 2) := by decide +kernel
theorem own_d4_97 : decode prog_15_method_13_code 97 = .ok (.iastore, 1) := by decide +kernel
theorem own_d4_98 : decode prog_15_method_13_code 98 = .ok (.iinc 6 1, 3) := by decide +kernel
theorem own_d4_101 : decode prog_15_method_13_code 101 = .ok (.goto (-41), 3) := by decide +kernel
theorem own_d4_104 : decode prog_15_method_13_code 104 = .ok (.return_, 1) := by decide +kernel
theorem own_pn_IdIndex : plainName "com/example/geodesic/geodesic/graph/IdIndex" = true := by first | (simp [plainName, overriddenIn]; done) | decide +kernel
theorem own_ef4 (m : MethodId) (this : Addr) (z_ : Int32) : entryFrame m #[(.ref this), (.int z_)] 8 = mkF m 0 #[.val (.ref this), .val (.int z_), .unset, .unset, .unset, .unset, .unset, .unset] [] := by first | (simp [entryFrame, mkF, argsToLocals, Value.category]; done) | rfl
theorem own_pd_4 : parseMethodDescriptor "(J)I" = some ⟨[.long], some .int⟩ := by decide +kernel
theorem own_pd_6 : parseMethodDescriptor "([II)V" = some ⟨[(.array .int), .int], none⟩ := by decide +kernel
def own_q_own_r4 (Z : State) (this : Addr) (z_ : Int32) (n : Nat) (aI : Addr) (h0 : Heap) (n0 : Nat) (v : Option Value) (h : Heap) (L : List Loc) : Prop := v = none ∧ Fr n0 L ∧ Keep h0 h [this] ∧ ∃ aB : Addr, n0 ≤ aB ∧ h0.size ≤ aB ∧ Fld Z h this "com/example/geodesic/geodesic/graph/IdIndex" "ids" "[J" (.ref aI) ∧ Fld Z h this "com/example/geodesic/geodesic/graph/IdIndex" "size" "I" (.int (0 : Int32)) ∧ Fld Z h this "com/example/geodesic/geodesic/graph/IdIndex" "table" "[I" (.ref aB) ∧ Fld Z h this "com/example/geodesic/geodesic/graph/IdIndex" "shift" "I" (.int ((64 : Int32) - (Int32.ofNat (own_bn n)))) ∧ own_Av Z h aB .int (own_tn n) (fun _ => .int (-1 : Int32))
set_option maxRecDepth 65536 in
set_option maxHeartbeats 40000000 in
theorem own_r4 (l : Launch) (Z : State) (a0 : Array Value) (hw : ∀ d ∈ tables_1, d.before a0 Z = true) (ws : List Jvm.Cond) (this : Addr) (z_ : Int32) (n : Nat) (aI : Addr) (h0 : Heap) (n0 : Nat) (Z0 : n0 ≤ h0.size) (hz : z_ = Int32.ofNat n) (hn : 16 ≤ n ∧ n ≤ 2047) (E_this : Exa Z h0 this "com/example/geodesic/geodesic/graph/IdIndex") (F_this_ids : Fld Z h0 this "com/example/geodesic/geodesic/graph/IdIndex" "ids" "[J" (.ref aI)) (F_this_size : Fld Z h0 this "com/example/geodesic/geodesic/graph/IdIndex" "size" "I" (.int (0 : Int32))) (F_this_table : Fld Z h0 this "com/example/geodesic/geodesic/graph/IdIndex" "table" "[I" .null) (F_this_shift : Fld Z h0 this "com/example/geodesic/geodesic/graph/IdIndex" "shift" "I" (.int (0 : Int32))) (ge_this : n0 ≤ this) :
    MetFree l (⟨"com/example/geodesic/geodesic/graph/IdIndex", "allocateTable", "(I)V"⟩ : MethodName) (head1 (Jvm.Cond.code (⟨"com/example/geodesic/geodesic/graph/IdIndex", "allocateTable", "(I)V"⟩ : MethodName) prog_15_method_13_code 8 none :: ws) ({ frames := 2, cells := 1, slots := 4096, locals := 29 } : Room)) (fun aq Uq => aq = #[(.ref this), (.int z_)] ∧ Z.Warmed39 Uq.vm ∧ Uq.heap = h0) (fun _ _ _ _ _ => True) (fun _ Uq oq Uq' => ∃ vq Lq, oq = .returned vq ∧ own_q_own_r4 Z this z_ n aI h0 n0 vq Uq'.heap Lq ∧ FrameEnd Uq oq Uq' Lq ({ frames := 2, cells := 1, slots := 4096, locals := 29 } : Room).cells ({ frames := 2, cells := 1, slots := 4096, locals := 29 } : Room).slots) := by
  refine MetFree.of_bodySF (plainFor_of_name own_pn_IdIndex) hisR ?_
  intro p e s m args below meth c T0 Bd hml0 hP hK
  obtain ⟨rfl, hZ, hh⟩ := hP
  have hx := Bd.exec
  have hby := Bd.bytes
  have hml : c.maxLocals = 8 := hml0
  have hown : s.vm.findClass "com/example/geodesic/geodesic/graph/IdIndex" = some m.cls := findClass_of_methodNamed Bd.named
  have hnm := (name_of_methodNamed Bd.named Bd.method).1
  have hret : meth.sig.returnType = none := Bd.returns
  have hlk : meth.locks = false := BodyLoose.notSynchronized Bd
  have X0 : Stand p l e ({ frames := 2, cells := 1, slots := 4096, locals := 29 } : Room) s m #[(.ref this), (.int z_)] below meth c T0 [] 0 0 := Stand.of_body Bd
  have e0 : T0.heap = h0 := by rw [← hh, Bd.state]; rfl
  have N0 := Fr.nil n0
  refine own_start (own_ef4 m this z_) (Q := fun (v : Option Value) (h : Heap) (L : List Loc) => v = none ∧ Fr n0 L ∧ Keep h0 h [this] ∧ ∃ aB : Addr, n0 ≤ aB ∧ h0.size ≤ aB ∧ Fld Z h this "com/example/geodesic/geodesic/graph/IdIndex" "ids" "[J" (.ref aI) ∧ Fld Z h this "com/example/geodesic/geodesic/graph/IdIndex" "size" "I" (.int (0 : Int32)) ∧ Fld Z h this "com/example/geodesic/geodesic/graph/IdIndex" "table" "[I" (.ref aB) ∧ Fld Z h this "com/example/geodesic/geodesic/graph/IdIndex" "shift" "I" (.int ((64 : Int32) - (Int32.ofNat (own_bn n)))) ∧ own_Av Z h aB .int (own_tn n) (fun _ => .int (-1 : Int32))) (k := 1) (j := 4096) ?_
  show own_Go p e below T0 (mkF m 0 #[.val (.ref this), .val (.int z_), .unset, .unset, .unset, .unset, .unset, .unset] []) _
  subst hz
  have K0 := Keep.refl h0 [this]
  have hB := own_bnh hn
  have ht : 32 ≤ own_tn n ∧ own_tn n ≤ 4096 := own_pw hB.1
  show own_Go p e below T0 (mkF m 0 #[.val (.ref this), .val (.int (Int32.ofNat n)), .unset, .unset, .unset, .unset, .unset, .unset] []) _
  refine own_s_aloadN X0.here hx (hb hby own_d4_0) rfl rfl ?_
  obtain ⟨T4, X4, e4, st4⟩ := getF X0 hx hZ hown (host := "") (Or.inl (hw _ (List.mem_of_getElem? (i := 31) rfl))) Via.refl e0 F_this_table (g := (mkF m 1 #[.val (.ref this), .val (.int (Int32.ofNat n)), .unset, .unset, .unset, .unset, .unset, .unset] [(.ref this)])) rfl rfl (hb hby own_d4_1)
  refine own_by st4 ?_
  show own_Go p e below T4 (mkF m 4 #[.val (.ref this), .val (.int (Int32.ofNat n)), .unset, .unset, .unset, .unset, .unset, .unset] [.null]) _
  refine own_s_astoreN X4.here hx #[.val (.ref this), .val (.int (Int32.ofNat n)), .val .null, .unset, .unset, .unset, .unset, .unset] (hb hby own_d4_4) rfl rfl ?_
  refine own_s_bipush X4.here hx (64 : Int32) (hb hby own_d4_5) rfl ?_
  refine own_by (fun tq_ kq_ => X4.ldc2Long hx hown (mvT hZ (hw _ (List.mem_of_getElem? (i := 33) rfl))) (g := (mkF m 7 #[.val (.ref this), .val (.int (Int32.ofNat n)), .val .null, .unset, .unset, .unset, .unset, .unset] [(.int (64 : Int32))])) rfl (hb hby own_d4_7) tq_ kq_) ?_
  show own_Go p e below T4 (mkF m 10 #[.val (.ref this), .val (.int (Int32.ofNat n)), .val .null, .unset, .unset, .unset, .unset, .unset] [(.long (2 : Int64)), (.int (64 : Int32))]) _
  refine own_s_iloadN X4.here hx (hb hby own_d4_10) rfl ?_
  refine own_s_i2l X4.here hx (hb hby own_d4_11) ?_
  refine own_s_lmul X4.here hx (hb hby own_d4_12) ?_
  refine own_s_lconst X4.here hx (1 : Int64) (hb hby own_d4_13) rfl ?_
  refine own_s_lsub X4.here hx (hb hby own_d4_14) ?_
  obtain ⟨_, _, ⟨T5, L5, k5, n5⟩, -, X5, ⟨Lc5, hQ5, l5, y5, z5⟩, st5⟩ := Jvm.LawKit.callS X4 hx (y := (⟨"java/lang/Long", "numberOfLeadingZeros", "(J)I"⟩ : MethodName)) hown (mvT hZ (hw _ (List.mem_of_getElem? (i := 34) rfl))) (mvT hZ (hw _ (List.mem_of_getElem? (i := 35) rfl))) (mvT hZ (hw _ (List.mem_of_getElem? (i := 36) rfl))) (mvT hZ (hw _ (List.mem_of_getElem? (i := 37) rfl))) (by decide) (backOf (W := 1) (own_r5 l Z a0 hw [] (((2 : Int64) * ((Int32.ofNat n).toInt64)) - (1 : Int64))  h0 n0 Z0 ) hZ (hw _ (List.mem_of_getElem? (i := 37) rfl)) (hw _ (List.mem_of_getElem? (i := 36) rfl)) (by decide) (by decide)) (g := (mkF m 15 #[.val (.ref this), .val (.int (Int32.ofNat n)), .val .null, .unset, .unset, .unset, .unset, .unset] [(.long (((2 : Int64) * ((Int32.ofNat n).toInt64)) - (1 : Int64))), (.int (64 : Int32))])) rfl (by rw [hml]; rfl) (argsL := [(.long (((2 : Int64) * ((Int32.ofNat n).toInt64)) - (1 : Int64)))]) (rest := [(.int (64 : Int32))]) (lenOf own_pd_4 rfl) rfl (by show 2 * 0 + _ ≤ _; exact Nat.le_of_eq rfl) (hb hby own_d4_15) (fun _ _ => ⟨rfl, e4, (by decide : 0 + 0 ≤ _), (by decide : 0 + 0 ≤ _)⟩)
  dsimp only [Pt.U, Pt.locs, Pt.cells, Pt.slots] at X5 l5 y5 z5 st5 hQ5
  subst l5 y5 z5
  obtain ⟨rfl, N5q, e5⟩ := hQ5
  have N5 := Fr.app N0 N5q
  refine own_by st5 ?_
  show own_Go p e below T5 (mkF m 18 #[.val (.ref this), .val (.int (Int32.ofNat n)), .val .null, .unset, .unset, .unset, .unset, .unset] [(.int (own_f5 (((2 : Int64) * ((Int32.ofNat n).toInt64)) - (1 : Int64)))), (.int (64 : Int32))]) _
  refine own_s_isub X5.here hx (hb hby own_d4_18) ?_
  rw [show ((64 : Int32) - (own_f5 (((2 : Int64) * ((Int32.ofNat n).toInt64)) - (1 : Int64)))) = (Int32.ofNat (own_bn n)) from hB.2.1]
  show own_Go p e below T5 (mkF m 19 #[.val (.ref this), .val (.int (Int32.ofNat n)), .val .null, .unset, .unset, .unset, .unset, .unset] [(.int (Int32.ofNat (own_bn n)))]) _
  refine own_s_istoreN X5.here hx #[.val (.ref this), .val (.int (Int32.ofNat n)), .val .null, .val (.int (Int32.ofNat (own_bn n))), .unset, .unset, .unset, .unset] (hb hby own_d4_19) rfl ?_
  refine own_s_aloadN X5.here hx (hb hby own_d4_20) rfl rfl ?_
  refine own_s_iconst X5.here hx (1 : Int32) (hb hby own_d4_21) rfl ?_
  refine own_s_iloadN X5.here hx (hb hby own_d4_22) rfl ?_
  refine own_s_ishl X5.here hx (hb hby own_d4_23) ?_
  rw [show ((1 : Int32) <<< ((Int32.ofNat (own_bn n)) &&& 31)) = (Int32.ofNat (own_tn n)) from own_shl hB.1]
  show own_Go p e below T5 (mkF m 24 #[.val (.ref this), .val (.int (Int32.ofNat n)), .val .null, .val (.int (Int32.ofNat (own_bn n))), .unset, .unset, .unset, .unset] [(.int (Int32.ofNat (own_tn n))), (.ref this)]) _
  obtain ⟨T6, h6, k6, X6, e6, E6, A6, st6⟩ := newP X5 hx hZ (hw _ (List.mem_of_getElem? (i := 43) rfl)) e5 (g := (mkF m 24 #[.val (.ref this), .val (.int (Int32.ofNat n)), .val .null, .val (.int (Int32.ofNat (own_bn n))), .unset, .unset, .unset, .unset] [(.int (Int32.ofNat (own_tn n))), (.ref this)])) rfl (hb hby own_d4_24) rfl ((own_ix (by omega)).1) (cap := 4096) (by rw [(own_ix (by omega)).2]; exact ht.2) (by decide) (by decide) (by decide)
  obtain ⟨b6, g6⟩ : ∃ z, z = h0.size := ⟨_, rfl⟩
  rw [← g6] at A6 st6
  have ge_b6 : n0 ≤ b6 := Nat.le_trans Z0 (Nat.le_of_eq g6.symm)
  have sz_b6 : h0.size ≤ b6 := Nat.le_trans K0.1 (Nat.le_of_eq g6.symm)
  have ne_this_b6 : this ≠ b6 := Nat.ne_of_lt (Nat.lt_of_lt_of_le E_this.lt (Nat.le_of_eq g6.symm))
  have f7 := E_this.ext E6
  have f8 := F_this_ids.ext E6
  have f9 := F_this_size.ext E6
  have f10 := F_this_table.ext E6
  have f11 := F_this_shift.ext E6
  have SZ6 : n0 ≤ h6.size := Nat.le_trans Z0 E6.1
  have K6 := K0.ext E6
  have f12 : own_Av Z h6 b6 .int (own_tn n) (fun _ => (.int (0 : Int32))) := own_Av.ofnew A6 ((own_ix (by omega)).2) rfl
  refine own_by st6 ?_
  show own_Go p e below T6 (mkF m 26 #[.val (.ref this), .val (.int (Int32.ofNat n)), .val .null, .val (.int (Int32.ofNat (own_bn n))), .unset, .unset, .unset, .unset] [(.ref b6), (.ref this)]) _
  obtain ⟨T13, h13, X13, e13, W13, st13⟩ := putF X6 hx hZ hown (host := "") (Or.inl (hw _ (List.mem_of_getElem? (i := 31) rfl))) Via.refl e6 f10 f7 (Or.inl (hw _ (List.mem_of_getElem? (i := 32) rfl))) (hw _ (List.mem_of_getElem? (i := 5) rfl)) (ty := (.array .int)) (by decide) rfl rfl (g := (mkF m 26 #[.val (.ref this), .val (.int (Int32.ofNat n)), .val .null, .val (.int (Int32.ofNat (own_bn n))), .unset, .unset, .unset, .unset] [(.ref b6), (.ref this)])) rfl rfl (hb hby own_d4_26)
  have fw13 := f10.same W13
  have f14 := f7.wr W13
  have f15 := f8.other W13 (Or.inr (slot_ne (Or.inl (hw _ (List.mem_of_getElem? (i := 26) rfl))) (Or.inl (hw _ (List.mem_of_getElem? (i := 32) rfl))) (by decide) (t := (.array .long)) (t' := (.array .int)) (by decide) (by decide)))
  have f16 := f9.other W13 (Or.inr (slot_ne (Or.inl (hw _ (List.mem_of_getElem? (i := 76) rfl))) (Or.inl (hw _ (List.mem_of_getElem? (i := 32) rfl))) (by decide) (t := .int) (t' := (.array .int)) (by decide) (by decide)))
  have f17 := f11.other W13 (Or.inr (slot_ne (Or.inl (hw _ (List.mem_of_getElem? (i := 49) rfl))) (Or.inl (hw _ (List.mem_of_getElem? (i := 32) rfl))) (by decide) (t := .int) (t' := (.array .int)) (by decide) (by decide)))
  have f18 := f12.other W13 (Ne.symm ne_this_b6)
  have N13 := Fr.snoc X13 N5 ge_this
  have SZ13 : n0 ≤ h13.size := by rw [W13.size]; exact SZ6
  have K13 := K6.wr W13 (Or.inl (List.mem_of_getElem? (i := 0) rfl))
  refine own_by st13 ?_
  show own_Go p e below T13 (mkF m 29 #[.val (.ref this), .val (.int (Int32.ofNat n)), .val .null, .val (.int (Int32.ofNat (own_bn n))), .unset, .unset, .unset, .unset] []) _
  refine own_s_aloadN X13.here hx (hb hby own_d4_29) rfl rfl ?_
  obtain ⟨T19, X19, e19, st19⟩ := getF X13 hx hZ hown (host := "") (Or.inl (hw _ (List.mem_of_getElem? (i := 31) rfl))) Via.refl e13 fw13 (g := (mkF m 30 #[.val (.ref this), .val (.int (Int32.ofNat n)), .val .null, .val (.int (Int32.ofNat (own_bn n))), .unset, .unset, .unset, .unset] [(.ref this)])) rfl rfl (hb hby own_d4_30)
  refine own_by st19 ?_
  show own_Go p e below T19 (mkF m 33 #[.val (.ref this), .val (.int (Int32.ofNat n)), .val .null, .val (.int (Int32.ofNat (own_bn n))), .unset, .unset, .unset, .unset] [(.ref b6)]) _
  refine own_s_iconst X19.here hx (-1 : Int32) (hb hby own_d4_33) rfl ?_
  obtain ⟨_, _, ⟨T20, L20, k20, n20⟩, -, X20, ⟨Lc20, hQ20, l20, y20, z20⟩, st20⟩ := Jvm.LawKit.callS X19 hx (y := (⟨"java/util/Arrays", "fill", "([II)V"⟩ : MethodName)) hown (mvT hZ (hw _ (List.mem_of_getElem? (i := 44) rfl))) (mvT hZ (hw _ (List.mem_of_getElem? (i := 45) rfl))) (mvT hZ (hw _ (List.mem_of_getElem? (i := 46) rfl))) (mvT hZ (hw _ (List.mem_of_getElem? (i := 47) rfl))) (by decide) (backOf (W := 0) (own_r7 l Z a0 hw [] b6 (-1 : Int32) (own_tn n) (fun _ => (.int (0 : Int32))) h13 n0 SZ13 (by omega) f18 ge_b6) hZ (hw _ (List.mem_of_getElem? (i := 47) rfl)) (hw _ (List.mem_of_getElem? (i := 46) rfl)) (by decide) (by decide)) (g := (mkF m 34 #[.val (.ref this), .val (.int (Int32.ofNat n)), .val .null, .val (.int (Int32.ofNat (own_bn n))), .unset, .unset, .unset, .unset] [(.int (-1 : Int32)), (.ref b6)])) rfl (by rw [hml]; rfl) (argsL := [(.ref b6), (.int (-1 : Int32))]) (rest := []) (lenOf own_pd_6 rfl) rfl (by show 2 * 0 + _ ≤ _; exact Nat.le_of_eq rfl) (hb hby own_d4_34) (fun _ _ => ⟨rfl, e19, (by decide : 1 + 0 ≤ _), (by decide : 4096 + 0 ≤ _)⟩)
  dsimp only [Pt.U, Pt.locs, Pt.cells, Pt.slots] at X20 l20 y20 z20 st20 hQ20
  subst l20 y20 z20
  obtain ⟨rfl, N20q, K20, fa20⟩ := hQ20
  have N20 := Fr.app N13 N20q
  have f21 := f14.keep K20
  have f22 := f15.keep K20 (ninS ne_this_b6 nin0)
  have f23 := f16.keep K20 (ninS ne_this_b6 nin0)
  have f24 := fw13.keep K20 (ninS ne_this_b6 nin0)
  have f25 := f17.keep K20 (ninS ne_this_b6 nin0)
  have SZ20 : n0 ≤ T20.heap.size := Nat.le_trans SZ13 K20.1
  have KC20 := K13.trans K20 (allS (Or.inr sz_b6) all0)
  refine own_by st20 ?_
  show own_Go p e below T20 (mkF m 37 #[.val (.ref this), .val (.int (Int32.ofNat n)), .val .null, .val (.int (Int32.ofNat (own_bn n))), .unset, .unset, .unset, .unset] []) _
  refine own_s_aloadN X20.here hx (hb hby own_d4_37) rfl rfl ?_
  refine own_s_bipush X20.here hx (64 : Int32) (hb hby own_d4_38) rfl ?_
  refine own_s_iloadN X20.here hx (hb hby own_d4_40) rfl ?_
  refine own_s_isub X20.here hx (hb hby own_d4_41) ?_
  obtain ⟨T26, h26, X26, e26, W26, st26⟩ := putF X20 hx hZ hown (host := "") (Or.inl (hw _ (List.mem_of_getElem? (i := 48) rfl))) Via.refl rfl f25 f21 (Or.inl (hw _ (List.mem_of_getElem? (i := 49) rfl))) (hw _ (List.mem_of_getElem? (i := 5) rfl)) (ty := .int) (by decide) rfl rfl (g := (mkF m 42 #[.val (.ref this), .val (.int (Int32.ofNat n)), .val .null, .val (.int (Int32.ofNat (own_bn n))), .unset, .unset, .unset, .unset] [(.int ((64 : Int32) - (Int32.ofNat (own_bn n)))), (.ref this)])) rfl rfl (hb hby own_d4_42)
  have fw26 := f25.same W26
  have f27 := f21.wr W26
  have f28 := f22.other W26 (Or.inr (slot_ne (Or.inl (hw _ (List.mem_of_getElem? (i := 26) rfl))) (Or.inl (hw _ (List.mem_of_getElem? (i := 49) rfl))) (by decide) (t := (.array .long)) (t' := .int) (by decide) (by decide)))
  have f29 := f23.other W26 (Or.inr (slot_ne (Or.inl (hw _ (List.mem_of_getElem? (i := 76) rfl))) (Or.inl (hw _ (List.mem_of_getElem? (i := 49) rfl))) (by decide) (t := .int) (t' := .int) (by decide) (by decide)))
  have f30 := f24.other W26 (Or.inr (slot_ne (Or.inl (hw _ (List.mem_of_getElem? (i := 32) rfl))) (Or.inl (hw _ (List.mem_of_getElem? (i := 49) rfl))) (by decide) (t := (.array .int)) (t' := .int) (by decide) (by decide)))
  have f31 := fa20.other W26 (Ne.symm ne_this_b6)
  have N26 := Fr.snoc X26 N20 ge_this
  have SZ26 : n0 ≤ h26.size := by rw [W26.size]; exact SZ20
  have K26 := KC20.wr W26 (Or.inl (List.mem_of_getElem? (i := 0) rfl))
  refine own_by st26 ?_
  show own_Go p e below T26 (mkF m 45 #[.val (.ref this), .val (.int (Int32.ofNat n)), .val .null, .val (.int (Int32.ofNat (own_bn n))), .unset, .unset, .unset, .unset] []) _
  refine own_s_aloadN X26.here hx (hb hby own_d4_45) rfl rfl ?_
  refine own_by (fun tq_ kq_ => XS.ifnullYes X26.here hx rfl (pc0 := 46) (pc' := 104) rfl (hb hby own_d4_46) rfl (by decide) (by decide) kq_) ?_
  show own_Go p e below T26 (mkF m 104 #[.val (.ref this), .val (.int (Int32.ofNat n)), .val .null, .val (.int (Int32.ofNat (own_bn n))), .unset, .unset, .unset, .unset] []) _
  refine own_retV X26 hx hret hlk (hb hby own_d4_104) (by decide) (by decide) ?_
  rw [e26]
  exact ⟨rfl, N26, K26, b6, ge_b6, sz_b6, f28, f29, f30, fw26, f31⟩
theorem own_d2_0 : decode prog_15_method_1_code 0 = .ok (.aload_n 0, 1) := by decide +kernel
theorem own_d2_1 : decode prog_15_method_1_code 1 = .ok (.invokespecial 1, 3) := by decide +kernel
theorem own_d2_4 : decode prog_15_method_1_code 4 = .ok (.aload_n 0, 1) := by decide +kernel
theorem own_d2_5 : decode prog_15_method_1_code 5 = .ok (.aload_n 1, 1) := by decide +kernel
theorem own_d2_6 : decode prog_15_method_1_code 6 = .ok (.putfield 7, 3) := by decide +kernel
theorem own_d2_9 : decode prog_15_method_1_code 9 = .ok (.aload_n 0, 1) := by decide +kernel
theorem own_d2_10 : decode prog_15_method_1_code 10 = .ok (.iload_n 2, 1) := by decide +kernel
theorem own_d2_11 : decode prog_15_method_1_code 11 = .ok (.bipush 16, 2) := by decide +kernel
theorem own_d2_13 : decode prog_15_method_1_code 13 = .ok (.invokestatic 13, 3) := by decide +kernel
theorem own_d2_16 : decode prog_15_method_1_code 16 = .ok (.newarray .long, 2) := by decide +kernel
theorem own_d2_18 : decode prog_15_method_1_code 18 = .ok (.putfield 19, 3) := by decide +kernel
theorem own_d2_21 : decode prog_15_method_1_code 21 = .ok (.aload_n 0, 1) := by decide +kernel
theorem own_d2_22 : decode prog_15_method_1_code 22 = .ok (.aload_n 0, 1) := by decide +kernel
theorem own_d2_23 : decode prog_15_method_1_code 23 = .ok (.getfield 19, 3) := by decide +kernel
theorem own_d2_26 : decode prog_15_method_1_code 26 = .ok (.arraylength, 1) := by decide +kernel
theorem own_d2_27 : decode prog_15_method_1_code 27 = .ok (.invokevirtual 23, 3) := by decide +kernel
theorem own_d2_30 : decode prog_15_method_1_code 30 = .ok (.return_, 1) := by decide +kernel
theorem own_ef2 (m : MethodId) (this : Addr) (r_ : Addr) (z_ : Int32) : entryFrame m #[(.ref this), (.ref r_), (.int z_)] 3 = mkF m 0 #[.val (.ref this), .val (.ref r_), .val (.int z_)] [] := by first | (simp [entryFrame, mkF, argsToLocals, Value.category]; done) | rfl
theorem own_pd_0 : parseMethodDescriptor "(II)I" = some ⟨[.int, .int], some .int⟩ := by decide +kernel
theorem own_pd_3 : parseMethodDescriptor "(I)V" = some ⟨[.int], none⟩ := by decide +kernel
def own_q_own_r2 (Z : State) (this : Addr) (r_ : Addr) (z_ : Int32) (n : Nat) (h0 : Heap) (n0 : Nat) (v : Option Value) (h : Heap) (L : List Loc) : Prop := v = none ∧ Fr n0 L ∧ Keep h0 h [this] ∧ ∃ aI aB : Addr, n0 ≤ aI ∧ n0 ≤ aB ∧ h0.size ≤ aI ∧ h0.size ≤ aB ∧ aI ≠ aB ∧ Fld Z h this "com/example/geodesic/geodesic/graph/IdIndex" "ids" "[J" (.ref aI) ∧ Fld Z h this "com/example/geodesic/geodesic/graph/IdIndex" "size" "I" (.int (0 : Int32)) ∧ Fld Z h this "com/example/geodesic/geodesic/graph/IdIndex" "table" "[I" (.ref aB) ∧ Fld Z h this "com/example/geodesic/geodesic/graph/IdIndex" "shift" "I" (.int ((64 : Int32) - (Int32.ofNat (own_bn n)))) ∧ own_Av Z h aI .long n (fun _ => .long (0 : Int64)) ∧ own_Av Z h aB .int (own_tn n) (fun _ => .int (-1 : Int32))
set_option maxRecDepth 65536 in
set_option maxHeartbeats 40000000 in
theorem own_r2 (l : Launch) (Z : State) (a0 : Array Value) (hw : ∀ d ∈ tables_1, d.before a0 Z = true) (ws : List Jvm.Cond) (this : Addr) (r_ : Addr) (z_ : Int32) (n : Nat) (h0 : Heap) (n0 : Nat) (Z0 : n0 ≤ h0.size) (hz : own_f1 z_ (16 : Int32) = Int32.ofNat n) (hn : 16 ≤ n ∧ n ≤ 2047) (E_this : Exa Z h0 this "com/example/geodesic/geodesic/graph/IdIndex") (F_this_what : Fld Z h0 this "com/example/geodesic/geodesic/graph/IdIndex" "what" "Ljava/lang/String;" .null) (F_this_ids : Fld Z h0 this "com/example/geodesic/geodesic/graph/IdIndex" "ids" "[J" .null) (F_this_size : Fld Z h0 this "com/example/geodesic/geodesic/graph/IdIndex" "size" "I" (.int (0 : Int32))) (F_this_table : Fld Z h0 this "com/example/geodesic/geodesic/graph/IdIndex" "table" "[I" .null) (F_this_shift : Fld Z h0 this "com/example/geodesic/geodesic/graph/IdIndex" "shift" "I" (.int (0 : Int32))) (ge_this : n0 ≤ this) :
    MetFree l (⟨"com/example/geodesic/geodesic/graph/IdIndex", "<init>", "(Ljava/lang/String;I)V"⟩ : MethodName) (head1 (Jvm.Cond.code (⟨"com/example/geodesic/geodesic/graph/IdIndex", "<init>", "(Ljava/lang/String;I)V"⟩ : MethodName) prog_15_method_1_code 3 none :: ws) ({ frames := 3, cells := 2, slots := 6143, locals := 48 } : Room)) (fun aq Uq => aq = #[(.ref this), (.ref r_), (.int z_)] ∧ Z.Warmed39 Uq.vm ∧ Uq.heap = h0) (fun _ _ _ _ _ => True) (fun _ Uq oq Uq' => ∃ vq Lq, oq = .returned vq ∧ own_q_own_r2 Z this r_ z_ n h0 n0 vq Uq'.heap Lq ∧ FrameEnd Uq oq Uq' Lq ({ frames := 3, cells := 2, slots := 6143, locals := 48 } : Room).cells ({ frames := 3, cells := 2, slots := 6143, locals := 48 } : Room).slots) := by
  refine MetFree.of_bodySF (plainFor_of_name own_pn_IdIndex) hisR ?_
  intro p e s m args below meth c T0 Bd hml0 hP hK
  obtain ⟨rfl, hZ, hh⟩ := hP
  have hx := Bd.exec
  have hby := Bd.bytes
  have hml : c.maxLocals = 3 := hml0
  have hown : s.vm.findClass "com/example/geodesic/geodesic/graph/IdIndex" = some m.cls := findClass_of_methodNamed Bd.named
  have hnm := (name_of_methodNamed Bd.named Bd.method).1
  have hret : meth.sig.returnType = none := Bd.returns
  have hlk : meth.locks = false := BodyLoose.notSynchronized Bd
  have X0 : Stand p l e ({ frames := 3, cells := 2, slots := 6143, locals := 48 } : Room) s m #[(.ref this), (.ref r_), (.int z_)] below meth c T0 [] 0 0 := Stand.of_body Bd
  have e0 : T0.heap = h0 := by rw [← hh, Bd.state]; rfl
  have N0 := Fr.nil n0
  refine own_start (own_ef2 m this r_ z_) (Q := fun (v : Option Value) (h : Heap) (L : List Loc) => v = none ∧ Fr n0 L ∧ Keep h0 h [this] ∧ ∃ aI aB : Addr, n0 ≤ aI ∧ n0 ≤ aB ∧ h0.size ≤ aI ∧ h0.size ≤ aB ∧ aI ≠ aB ∧ Fld Z h this "com/example/geodesic/geodesic/graph/IdIndex" "ids" "[J" (.ref aI) ∧ Fld Z h this "com/example/geodesic/geodesic/graph/IdIndex" "size" "I" (.int (0 : Int32)) ∧ Fld Z h this "com/example/geodesic/geodesic/graph/IdIndex" "table" "[I" (.ref aB) ∧ Fld Z h this "com/example/geodesic/geodesic/graph/IdIndex" "shift" "I" (.int ((64 : Int32) - (Int32.ofNat (own_bn n)))) ∧ own_Av Z h aI .long n (fun _ => .long (0 : Int64)) ∧ own_Av Z h aB .int (own_tn n) (fun _ => .int (-1 : Int32))) (k := 2) (j := 6143) ?_
  show own_Go p e below T0 (mkF m 0 #[.val (.ref this), .val (.ref r_), .val (.int z_)] []) _
  have K0 := Keep.refl h0 [this]
  refine own_s_aloadN X0.here hx (hb hby own_d2_0) rfl rfl ?_
  obtain ⟨T32, X32, e32, st32⟩ := initO X0 hx hZ hown (hw _ (List.mem_of_getElem? (i := 18) rfl)) (hw _ (List.mem_of_getElem? (i := 19) rfl)) (hw _ (List.mem_of_getElem? (i := 20) rfl)) e0 (g := (mkF m 1 #[.val (.ref this), .val (.ref r_), .val (.int z_)] [(.ref this)])) rfl (by rw [hml]; rfl) rfl (hb hby own_d2_1) (by decide) (W := 0) (by show 2 * 0 + _ ≤ _; exact Nat.le_of_eq rfl) (by decide)
  refine own_by st32 ?_
  show own_Go p e below T32 (mkF m 4 #[.val (.ref this), .val (.ref r_), .val (.int z_)] []) _
  refine own_s_aloadN X32.here hx (hb hby own_d2_4) rfl rfl ?_
  refine own_s_aloadN X32.here hx (hb hby own_d2_5) rfl rfl ?_
  obtain ⟨T33, h33, X33, e33, W33, st33⟩ := putF X32 hx hZ hown (host := "") (Or.inl (hw _ (List.mem_of_getElem? (i := 21) rfl))) Via.refl e32 F_this_what E_this (Or.inr ⟨(hw _ (List.mem_of_getElem? (i := 22) rfl)), rfl, hnm⟩) (hw _ (List.mem_of_getElem? (i := 5) rfl)) (ty := (.object "java/lang/String")) (by decide) rfl rfl (g := (mkF m 6 #[.val (.ref this), .val (.ref r_), .val (.int z_)] [(.ref r_), (.ref this)])) rfl rfl (hb hby own_d2_6)
  have fw33 := F_this_what.same W33
  have f34 := E_this.wr W33
  have f35 := F_this_ids.other W33 (Or.inr (slot_ne (Or.inl (hw _ (List.mem_of_getElem? (i := 26) rfl))) (Or.inr (hw _ (List.mem_of_getElem? (i := 22) rfl))) (by decide) (t := (.array .long)) (t' := (.object "java/lang/String")) (by decide) (by decide)))
  have f36 := F_this_size.other W33 (Or.inr (slot_ne (Or.inl (hw _ (List.mem_of_getElem? (i := 76) rfl))) (Or.inr (hw _ (List.mem_of_getElem? (i := 22) rfl))) (by decide) (t := .int) (t' := (.object "java/lang/String")) (by decide) (by decide)))
  have f37 := F_this_table.other W33 (Or.inr (slot_ne (Or.inl (hw _ (List.mem_of_getElem? (i := 32) rfl))) (Or.inr (hw _ (List.mem_of_getElem? (i := 22) rfl))) (by decide) (t := (.array .int)) (t' := (.object "java/lang/String")) (by decide) (by decide)))
  have f38 := F_this_shift.other W33 (Or.inr (slot_ne (Or.inl (hw _ (List.mem_of_getElem? (i := 49) rfl))) (Or.inr (hw _ (List.mem_of_getElem? (i := 22) rfl))) (by decide) (t := .int) (t' := (.object "java/lang/String")) (by decide) (by decide)))
  have N33 := Fr.snoc X33 N0 ge_this
  have SZ33 : n0 ≤ h33.size := by rw [W33.size]; exact Z0
  have K33 := K0.wr W33 (Or.inl (List.mem_of_getElem? (i := 0) rfl))
  refine own_by st33 ?_
  show own_Go p e below T33 (mkF m 9 #[.val (.ref this), .val (.ref r_), .val (.int z_)] []) _
  refine own_s_aloadN X33.here hx (hb hby own_d2_9) rfl rfl ?_
  refine own_s_iloadN X33.here hx (hb hby own_d2_10) rfl ?_
  refine own_s_bipush X33.here hx (16 : Int32) (hb hby own_d2_11) rfl ?_
  obtain ⟨_, _, ⟨T39, L39, k39, n39⟩, -, X39, ⟨Lc39, hQ39, l39, y39, z39⟩, st39⟩ := Jvm.LawKit.callS X33 hx (y := (⟨"java/lang/Math", "max", "(II)I"⟩ : MethodName)) hown (mvT hZ (hw _ (List.mem_of_getElem? (i := 23) rfl))) (mvT hZ (hw _ (List.mem_of_getElem? (i := 1) rfl))) (mvT hZ (hw _ (List.mem_of_getElem? (i := 2) rfl))) (mvT hZ (hw _ (List.mem_of_getElem? (i := 3) rfl))) (by decide) (backOf (W := 1) (own_r1 l Z a0 hw [] z_ (16 : Int32)  h33 n0 SZ33 ) hZ (hw _ (List.mem_of_getElem? (i := 3) rfl)) (hw _ (List.mem_of_getElem? (i := 2) rfl)) (by decide) (by decide)) (g := (mkF m 13 #[.val (.ref this), .val (.ref r_), .val (.int z_)] [(.int (16 : Int32)), (.int z_), (.ref this)])) rfl (by rw [hml]; rfl) (argsL := [(.int z_), (.int (16 : Int32))]) (rest := [(.ref this)]) (lenOf own_pd_0 rfl) rfl (by show 2 * 0 + _ ≤ _; exact Nat.le_of_eq rfl) (hb hby own_d2_13) (fun _ _ => ⟨rfl, e33, (by decide : 0 + 0 ≤ _), (by decide : 0 + 0 ≤ _)⟩)
  dsimp only [Pt.U, Pt.locs, Pt.cells, Pt.slots] at X39 l39 y39 z39 st39 hQ39
  subst l39 y39 z39
  obtain ⟨rfl, N39q, e39⟩ := hQ39
  have N39 := Fr.app N33 N39q
  refine own_by st39 ?_
  show own_Go p e below T39 (mkF m 16 #[.val (.ref this), .val (.ref r_), .val (.int z_)] [(.int (own_f1 z_ (16 : Int32))), (.ref this)]) _
  rw [show (own_f1 z_ (16 : Int32)) = (Int32.ofNat n) from hz]
  show own_Go p e below T39 (mkF m 16 #[.val (.ref this), .val (.ref r_), .val (.int z_)] [(.int (Int32.ofNat n)), (.ref this)]) _
  obtain ⟨T40, h40, k40, X40, e40, E40, A40, st40⟩ := newP X39 hx hZ (hw _ (List.mem_of_getElem? (i := 24) rfl)) e39 (g := (mkF m 16 #[.val (.ref this), .val (.ref r_), .val (.int z_)] [(.int (Int32.ofNat n)), (.ref this)])) rfl (hb hby own_d2_16) rfl ((own_ix (by omega)).1) (cap := 2047) (by rw [(own_ix (by omega)).2]; exact hn.2) (by decide) (by decide) (by decide)
  obtain ⟨b40, g40⟩ : ∃ z, z = h33.size := ⟨_, rfl⟩
  rw [← g40] at A40 st40
  have ge_b40 : n0 ≤ b40 := Nat.le_trans SZ33 (Nat.le_of_eq g40.symm)
  have sz_b40 : h0.size ≤ b40 := Nat.le_trans K33.1 (Nat.le_of_eq g40.symm)
  have ne_this_b40 : this ≠ b40 := Nat.ne_of_lt (Nat.lt_of_lt_of_le f34.lt (Nat.le_of_eq g40.symm))
  have f41 := f34.ext E40
  have f42 := fw33.ext E40
  have f43 := f35.ext E40
  have f44 := f36.ext E40
  have f45 := f37.ext E40
  have f46 := f38.ext E40
  have SZ40 : n0 ≤ h40.size := Nat.le_trans SZ33 E40.1
  have K40 := K33.ext E40
  have f47 : own_Av Z h40 b40 .long n (fun _ => (.long (0 : Int64))) := own_Av.ofnew A40 ((own_ix (by omega)).2) rfl
  refine own_by st40 ?_
  show own_Go p e below T40 (mkF m 18 #[.val (.ref this), .val (.ref r_), .val (.int z_)] [(.ref b40), (.ref this)]) _
  obtain ⟨T48, h48, X48, e48, W48, st48⟩ := putF X40 hx hZ hown (host := "") (Or.inl (hw _ (List.mem_of_getElem? (i := 25) rfl))) Via.refl e40 f43 f41 (Or.inl (hw _ (List.mem_of_getElem? (i := 26) rfl))) (hw _ (List.mem_of_getElem? (i := 5) rfl)) (ty := (.array .long)) (by decide) rfl rfl (g := (mkF m 18 #[.val (.ref this), .val (.ref r_), .val (.int z_)] [(.ref b40), (.ref this)])) rfl rfl (hb hby own_d2_18)
  have fw48 := f43.same W48
  have f49 := f41.wr W48
  have f50 := f42.other W48 (Or.inr (slot_ne (Or.inr (hw _ (List.mem_of_getElem? (i := 22) rfl))) (Or.inl (hw _ (List.mem_of_getElem? (i := 26) rfl))) (by decide) (t := (.object "java/lang/String")) (t' := (.array .long)) (by decide) (by decide)))
  have f51 := f44.other W48 (Or.inr (slot_ne (Or.inl (hw _ (List.mem_of_getElem? (i := 76) rfl))) (Or.inl (hw _ (List.mem_of_getElem? (i := 26) rfl))) (by decide) (t := .int) (t' := (.array .long)) (by decide) (by decide)))
  have f52 := f45.other W48 (Or.inr (slot_ne (Or.inl (hw _ (List.mem_of_getElem? (i := 32) rfl))) (Or.inl (hw _ (List.mem_of_getElem? (i := 26) rfl))) (by decide) (t := (.array .int)) (t' := (.array .long)) (by decide) (by decide)))
  have f53 := f46.other W48 (Or.inr (slot_ne (Or.inl (hw _ (List.mem_of_getElem? (i := 49) rfl))) (Or.inl (hw _ (List.mem_of_getElem? (i := 26) rfl))) (by decide) (t := .int) (t' := (.array .long)) (by decide) (by decide)))
  have f54 := f47.other W48 (Ne.symm ne_this_b40)
  have N48 := Fr.snoc X48 N39 ge_this
  have SZ48 : n0 ≤ h48.size := by rw [W48.size]; exact SZ40
  have K48 := K40.wr W48 (Or.inl (List.mem_of_getElem? (i := 0) rfl))
  refine own_by st48 ?_
  show own_Go p e below T48 (mkF m 21 #[.val (.ref this), .val (.ref r_), .val (.int z_)] []) _
  refine own_s_aloadN X48.here hx (hb hby own_d2_21) rfl rfl ?_
  refine own_s_aloadN X48.here hx (hb hby own_d2_22) rfl rfl ?_
  obtain ⟨T55, X55, e55, st55⟩ := getF X48 hx hZ hown (host := "") (Or.inl (hw _ (List.mem_of_getElem? (i := 25) rfl))) Via.refl e48 fw48 (g := (mkF m 23 #[.val (.ref this), .val (.ref r_), .val (.int z_)] [(.ref this), (.ref this)])) rfl rfl (hb hby own_d2_23)
  refine own_by st55 ?_
  show own_Go p e below T55 (mkF m 26 #[.val (.ref this), .val (.ref r_), .val (.int z_)] [(.ref b40), (.ref this)]) _
  refine own_by (fun tq_ kq_ => own_len X55 hx hZ e55 f54 (z := (Int32.ofNat n)) rfl (g := (mkF m 26 #[.val (.ref this), .val (.ref r_), .val (.int z_)] [(.ref b40), (.ref this)])) rfl rfl (hb hby own_d2_26) tq_ kq_) ?_
  show own_Go p e below T55 (mkF m 27 #[.val (.ref this), .val (.ref r_), .val (.int z_)] [(.int (Int32.ofNat n)), (.ref this)]) _
  obtain ⟨cq56, q56, q56'⟩ := f49.cell
  obtain ⟨_, _, ⟨T56, L56, k56, n56⟩, -, X56, ⟨Lc56, hQ56, l56, y56, z56⟩, st56⟩ := X55.privateBack hx (y := (⟨"com/example/geodesic/geodesic/graph/IdIndex", "allocateTable", "(I)V"⟩ : MethodName)) hown (mvT hZ (hw _ (List.mem_of_getElem? (i := 27) rfl))) (mvT hZ (hw _ (List.mem_of_getElem? (i := 28) rfl))) (own_selP (y := (⟨"com/example/geodesic/geodesic/graph/IdIndex", "allocateTable", "(I)V"⟩ : MethodName)) hZ (hw _ (List.mem_of_getElem? (i := 5) rfl)) (hw _ (List.mem_of_getElem? (i := 29) rfl)) (hw _ (List.mem_of_getElem? (i := 28) rfl)) (by decide)) (Cond.privateMethod_at (mvP hZ (hw _ (List.mem_of_getElem? (i := 29) rfl)) (args := #[]))) (mvT hZ (hw _ (List.mem_of_getElem? (i := 30) rfl))) (by decide) (backOf (W := 0) (own_r4 l Z a0 hw [] this (Int32.ofNat n) n b40 h48 n0 SZ48 rfl hn f49 fw48 f51 f52 f53 ge_this) hZ (hw _ (List.mem_of_getElem? (i := 30) rfl)) (hw _ (List.mem_of_getElem? (i := 6) rfl)) (by decide) (by decide)) (g := (mkF m 27 #[.val (.ref this), .val (.ref r_), .val (.int z_)] [(.int (Int32.ofNat n)), (.ref this)])) rfl (by rw [hml]; rfl) (Steps.refl _) (a := this) (by rw [e55]; exact q56) q56' (argsL := [(.int (Int32.ofNat n))]) (rest := []) (lenOf own_pd_3 rfl) rfl (by show 2 * 0 + _ ≤ _; exact Nat.le_of_eq rfl) (hb hby own_d2_27) (fun _ _ => ⟨rfl, e55, (by decide : 1 + 1 ≤ _), (by decide : 2047 + 4096 ≤ _)⟩)
  dsimp only [Pt.U, Pt.locs, Pt.cells, Pt.slots] at X56 l56 y56 z56 st56 hQ56
  subst l56 y56 z56
  obtain ⟨rfl, N56q, K56, aB56, gb56, zb56, fids56, fsize56, ftable56, fshift56, fa56⟩ := hQ56
  have N56 := Fr.app N48 N56q
  have f57 := f49.keep K56
  have f58 := f54.keep K56 (ninS (Ne.symm ne_this_b40) nin0)
  have SZ56 : n0 ≤ T56.heap.size := Nat.le_trans SZ48 K56.1
  have KC56 := K48.trans K56 (allS (Or.inl (List.mem_of_getElem? (i := 0) rfl)) all0)
  refine own_by (fun t k => st56.trans k) ?_
  have sz_aB56 : h0.size ≤ aB56 := Nat.le_trans K48.1 zb56
  have ne_this_aB56 : this ≠ aB56 := Nat.ne_of_lt (Nat.lt_of_lt_of_le f49.lt zb56)
  have ne_b40_aB56 : b40 ≠ aB56 := Nat.ne_of_lt (Nat.lt_of_lt_of_le f54.lt zb56)
  show own_Go p e below T56 (mkF m 30 #[.val (.ref this), .val (.ref r_), .val (.int z_)] []) _
  refine own_retV X56 hx hret hlk (hb hby own_d2_30) (by decide) (by decide) ?_
  exact ⟨rfl, N56, KC56, b40, aB56, ge_b40, gb56, sz_b40, sz_aB56, ne_b40_aB56, fids56, fsize56, ftable56, fshift56, f58, fa56⟩
theorem own_d8_0 : decode prog_15_method_8_code 0 = .ok (.ldc2_w 57, 3) := by decide +kernel
theorem own_d8_3 : decode prog_15_method_8_code 3 = .ok (.aload_n 0, 1) := by decide +kernel
theorem own_d8_4 : decode prog_15_method_8_code 4 = .ok (.getfield 19, 3) := by decide +kernel
theorem own_d8_7 : decode prog_15_method_8_code 7 = .ok (.arraylength, 1) := by decide +kernel
theorem own_d8_8 : decode prog_15_method_8_code 8 = .ok (.i2l, 1) := by decide +kernel
theorem own_d8_9 : decode prog_15_method_8_code 9 = .ok (.lmul, 1) := by decide +kernel
theorem own_d8_10 : decode prog_15_method_8_code 10 = .ok (.ldc2_w 61, 3) := by decide +kernel
theorem own_d8_13 : decode prog_15_method_8_code 13 = .ok (.aload_n 0, 1) := by decide +kernel
theorem own_d8_14 : decode prog_15_method_8_code 14 = .ok (.getfield 31, 3) := by decide +kernel
theorem own_d8_17 : decode prog_15_method_8_code 17 = .ok (.arraylength, 1) := by decide +kernel
theorem own_d8_18 : decode prog_15_method_8_code 18 = .ok (.i2l, 1) := by decide +kernel
theorem own_d8_19 : decode prog_15_method_8_code 19 = .ok (.lmul, 1) := by decide +kernel
theorem own_d8_20 : decode prog_15_method_8_code 20 = .ok (.ladd, 1) := by decide +kernel
theorem own_d8_21 : decode prog_15_method_8_code 21 = .ok (.lreturn, 1) := by decide +kernel
theorem own_ef8 (m : MethodId) (this : Addr) : entryFrame m #[(.ref this)] 1 = mkF m 0 #[.val (.ref this)] [] := by first | (simp [entryFrame, mkF, argsToLocals, Value.category]; done) | rfl
def own_q_own_r8 (Z : State) (this : Addr) (aI aB : Addr) (nI nB : Nat) (fI fB : Nat → Value) (h0 : Heap) (n0 : Nat) (v : Option Value) (h : Heap) (L : List Loc) : Prop := v = some (.long (((8 : Int64) * ((Int32.ofNat nI).toInt64)) + ((4 : Int64) * ((Int32.ofNat nB).toInt64)))) ∧ Fr n0 L ∧ h = h0
set_option maxRecDepth 65536 in
set_option maxHeartbeats 40000000 in
theorem own_r8 (l : Launch) (Z : State) (a0 : Array Value) (hw : ∀ d ∈ tables_1, d.before a0 Z = true) (ws : List Jvm.Cond) (this : Addr) (aI aB : Addr) (nI nB : Nat) (fI fB : Nat → Value) (h0 : Heap) (n0 : Nat) (Z0 : n0 ≤ h0.size) (E_this : Exa Z h0 this "com/example/geodesic/geodesic/graph/IdIndex") (F_this_ids : Fld Z h0 this "com/example/geodesic/geodesic/graph/IdIndex" "ids" "[J" (.ref aI)) (F_this_table : Fld Z h0 this "com/example/geodesic/geodesic/graph/IdIndex" "table" "[I" (.ref aB)) (A_aI : own_Av Z h0 aI .long nI fI) (A_aB : own_Av Z h0 aB .int nB fB) :
    MetFree l (⟨"com/example/geodesic/geodesic/graph/IdIndex", "memoryBytes", "()J"⟩ : MethodName) (head1 (Jvm.Cond.code (⟨"com/example/geodesic/geodesic/graph/IdIndex", "memoryBytes", "()J"⟩ : MethodName) prog_15_method_8_code 1 (some .long) :: ws) ({ frames := 0, cells := 0, slots := 0, locals := 0 } : Room)) (fun aq Uq => aq = #[(.ref this)] ∧ Z.Warmed39 Uq.vm ∧ Uq.heap = h0) (fun _ _ _ _ _ => True) (fun _ Uq oq Uq' => ∃ vq Lq, oq = .returned vq ∧ own_q_own_r8 Z this aI aB nI nB fI fB h0 n0 vq Uq'.heap Lq ∧ FrameEnd Uq oq Uq' Lq ({ frames := 0, cells := 0, slots := 0, locals := 0 } : Room).cells ({ frames := 0, cells := 0, slots := 0, locals := 0 } : Room).slots) := by
  refine MetFree.of_bodySF (plainFor_of_name own_pn_IdIndex) hisR ?_
  intro p e s m args below meth c T0 Bd hml0 hP hK
  obtain ⟨rfl, hZ, hh⟩ := hP
  have hx := Bd.exec
  have hby := Bd.bytes
  have hml : c.maxLocals = 1 := hml0
  have hown : s.vm.findClass "com/example/geodesic/geodesic/graph/IdIndex" = some m.cls := findClass_of_methodNamed Bd.named
  have hnm := (name_of_methodNamed Bd.named Bd.method).1
  have hret : meth.sig.returnType = (some .long) := Bd.returns
  have hlk : meth.locks = false := BodyLoose.notSynchronized Bd
  have X0 : Stand p l e ({ frames := 0, cells := 0, slots := 0, locals := 0 } : Room) s m #[(.ref this)] below meth c T0 [] 0 0 := Stand.of_body Bd
  have e0 : T0.heap = h0 := by rw [← hh, Bd.state]; rfl
  have N0 := Fr.nil n0
  refine own_start (own_ef8 m this) (Q := fun (v : Option Value) (h : Heap) (L : List Loc) => v = some (.long (((8 : Int64) * ((Int32.ofNat nI).toInt64)) + ((4 : Int64) * ((Int32.ofNat nB).toInt64)))) ∧ Fr n0 L ∧ h = h0) (k := 0) (j := 0) ?_
  show own_Go p e below T0 (mkF m 0 #[.val (.ref this)] []) _
  refine own_by (fun tq_ kq_ => X0.ldc2Long hx hown (mvT hZ (hw _ (List.mem_of_getElem? (i := 55) rfl))) (g := (mkF m 0 #[.val (.ref this)] [])) rfl (hb hby own_d8_0) tq_ kq_) ?_
  show own_Go p e below T0 (mkF m 3 #[.val (.ref this)] [(.long (8 : Int64))]) _
  refine own_s_aloadN X0.here hx (hb hby own_d8_3) rfl rfl ?_
  obtain ⟨T59, X59, e59, st59⟩ := getF X0 hx hZ hown (host := "") (Or.inl (hw _ (List.mem_of_getElem? (i := 25) rfl))) Via.refl e0 F_this_ids (g := (mkF m 4 #[.val (.ref this)] [(.ref this), (.long (8 : Int64))])) rfl rfl (hb hby own_d8_4)
  refine own_by st59 ?_
  show own_Go p e below T59 (mkF m 7 #[.val (.ref this)] [(.ref aI), (.long (8 : Int64))]) _
  refine own_by (fun tq_ kq_ => own_len X59 hx hZ e59 A_aI (z := (Int32.ofNat nI)) rfl (g := (mkF m 7 #[.val (.ref this)] [(.ref aI), (.long (8 : Int64))])) rfl rfl (hb hby own_d8_7) tq_ kq_) ?_
  show own_Go p e below T59 (mkF m 8 #[.val (.ref this)] [(.int (Int32.ofNat nI)), (.long (8 : Int64))]) _
  refine own_s_i2l X59.here hx (hb hby own_d8_8) ?_
  refine own_s_lmul X59.here hx (hb hby own_d8_9) ?_
  refine own_by (fun tq_ kq_ => X59.ldc2Long hx hown (mvT hZ (hw _ (List.mem_of_getElem? (i := 56) rfl))) (g := (mkF m 10 #[.val (.ref this)] [(.long ((8 : Int64) * ((Int32.ofNat nI).toInt64)))])) rfl (hb hby own_d8_10) tq_ kq_) ?_
  show own_Go p e below T59 (mkF m 13 #[.val (.ref this)] [(.long (4 : Int64)), (.long ((8 : Int64) * ((Int32.ofNat nI).toInt64)))]) _
  refine own_s_aloadN X59.here hx (hb hby own_d8_13) rfl rfl ?_
  obtain ⟨T60, X60, e60, st60⟩ := getF X59 hx hZ hown (host := "") (Or.inl (hw _ (List.mem_of_getElem? (i := 31) rfl))) Via.refl e59 F_this_table (g := (mkF m 14 #[.val (.ref this)] [(.ref this), (.long (4 : Int64)), (.long ((8 : Int64) * ((Int32.ofNat nI).toInt64)))])) rfl rfl (hb hby own_d8_14)
  refine own_by st60 ?_
  show own_Go p e below T60 (mkF m 17 #[.val (.ref this)] [(.ref aB), (.long (4 : Int64)), (.long ((8 : Int64) * ((Int32.ofNat nI).toInt64)))]) _
  refine own_by (fun tq_ kq_ => own_len X60 hx hZ e60 A_aB (z := (Int32.ofNat nB)) rfl (g := (mkF m 17 #[.val (.ref this)] [(.ref aB), (.long (4 : Int64)), (.long ((8 : Int64) * ((Int32.ofNat nI).toInt64)))])) rfl rfl (hb hby own_d8_17) tq_ kq_) ?_
  show own_Go p e below T60 (mkF m 18 #[.val (.ref this)] [(.int (Int32.ofNat nB)), (.long (4 : Int64)), (.long ((8 : Int64) * ((Int32.ofNat nI).toInt64)))]) _
  refine own_s_i2l X60.here hx (hb hby own_d8_18) ?_
  refine own_s_lmul X60.here hx (hb hby own_d8_19) ?_
  refine own_s_ladd X60.here hx (hb hby own_d8_20) ?_
  refine own_retJ X60 hx hret hlk (hb hby own_d8_21) (by decide) (by decide) ?_
  exact ⟨rfl, N0, e60⟩
theorem own_d11_0 : decode prog_15_method_12_code 0 = .ok (.lload_n 1, 1) := by decide +kernel
theorem own_d11_1 : decode prog_15_method_12_code 1 = .ok (.ldc2_w 86, 3) := by decide +kernel
theorem own_d11_4 : decode prog_15_method_12_code 4 = .ok (.lmul, 1) := by decide +kernel
theorem own_d11_5 : decode prog_15_method_12_code 5 = .ok (.aload_n 0, 1) := by decide +kernel
theorem own_d11_6 : decode prog_15_method_12_code 6 = .ok (.getfield 88, 3) := by decide +kernel
theorem own_d11_9 : decode prog_15_method_12_code 9 = .ok (.lushr, 1) := by decide +kernel
theorem own_d11_10 : decode prog_15_method_12_code 10 = .ok (.l2i, 1) := by decide +kernel
theorem own_d11_11 : decode prog_15_method_12_code 11 = .ok (.ireturn, 1) := by decide +kernel
theorem own_ef11 (m : MethodId) (this : Addr) (x_ : Int64) : entryFrame m #[(.ref this), (.long x_)] 3 = mkF m 0 #[.val (.ref this), .val (.long x_), .second] [] := by first | (simp [entryFrame, mkF, argsToLocals, Value.category]; done) | rfl
def own_q_own_r11 (Z : State) (this : Addr) (x_ : Int64) (bb : Nat) (h0 : Heap) (n0 : Nat) (v : Option Value) (h : Heap) (L : List Loc) : Prop := v = some (.int (own_home x_ bb)) ∧ Fr n0 L ∧ h = h0
set_option maxRecDepth 65536 in
set_option maxHeartbeats 40000000 in
theorem own_r11 (l : Launch) (Z : State) (a0 : Array Value) (hw : ∀ d ∈ tables_1, d.before a0 Z = true) (ws : List Jvm.Cond) (this : Addr) (x_ : Int64) (bb : Nat) (h0 : Heap) (n0 : Nat) (Z0 : n0 ≤ h0.size) (E_this : Exa Z h0 this "com/example/geodesic/geodesic/graph/IdIndex") (F_this_shift : Fld Z h0 this "com/example/geodesic/geodesic/graph/IdIndex" "shift" "I" (.int ((64 : Int32) - (Int32.ofNat bb)))) :
    MetFree l (⟨"com/example/geodesic/geodesic/graph/IdIndex", "home", "(J)I"⟩ : MethodName) (head1 (Jvm.Cond.code (⟨"com/example/geodesic/geodesic/graph/IdIndex", "home", "(J)I"⟩ : MethodName) prog_15_method_12_code 3 (some .int) :: ws) ({ frames := 0, cells := 0, slots := 0, locals := 0 } : Room)) (fun aq Uq => aq = #[(.ref this), (.long x_)] ∧ Z.Warmed39 Uq.vm ∧ Uq.heap = h0) (fun _ _ _ _ _ => True) (fun _ Uq oq Uq' => ∃ vq Lq, oq = .returned vq ∧ own_q_own_r11 Z this x_ bb h0 n0 vq Uq'.heap Lq ∧ FrameEnd Uq oq Uq' Lq ({ frames := 0, cells := 0, slots := 0, locals := 0 } : Room).cells ({ frames := 0, cells := 0, slots := 0, locals := 0 } : Room).slots) := by
  refine MetFree.of_bodySF (plainFor_of_name own_pn_IdIndex) hisR ?_
  intro p e s m args below meth c T0 Bd hml0 hP hK
  obtain ⟨rfl, hZ, hh⟩ := hP
  have hx := Bd.exec
  have hby := Bd.bytes
  have hml : c.maxLocals = 3 := hml0
  have hown : s.vm.findClass "com/example/geodesic/geodesic/graph/IdIndex" = some m.cls := findClass_of_methodNamed Bd.named
  have hnm := (name_of_methodNamed Bd.named Bd.method).1
  have hret : meth.sig.returnType = (some .int) := Bd.returns
  have hlk : meth.locks = false := BodyLoose.notSynchronized Bd
  have X0 : Stand p l e ({ frames := 0, cells := 0, slots := 0, locals := 0 } : Room) s m #[(.ref this), (.long x_)] below meth c T0 [] 0 0 := Stand.of_body Bd
  have e0 : T0.heap = h0 := by rw [← hh, Bd.state]; rfl
  have N0 := Fr.nil n0
  refine own_start (own_ef11 m this x_) (Q := fun (v : Option Value) (h : Heap) (L : List Loc) => v = some (.int (own_home x_ bb)) ∧ Fr n0 L ∧ h = h0) (k := 0) (j := 0) ?_
  show own_Go p e below T0 (mkF m 0 #[.val (.ref this), .val (.long x_), .second] []) _
  refine own_s_lloadN X0.here hx (hb hby own_d11_0) rfl ?_
  refine own_by (fun tq_ kq_ => X0.ldc2Long hx hown (mvT hZ (hw _ (List.mem_of_getElem? (i := 74) rfl))) (g := (mkF m 1 #[.val (.ref this), .val (.long x_), .second] [(.long x_)])) rfl (hb hby own_d11_1) tq_ kq_) ?_
  show own_Go p e below T0 (mkF m 4 #[.val (.ref this), .val (.long x_), .second] [(.long (-7046029254386353131 : Int64)), (.long x_)]) _
  refine own_s_lmul X0.here hx (hb hby own_d11_4) ?_
  refine own_s_aloadN X0.here hx (hb hby own_d11_5) rfl rfl ?_
  obtain ⟨T61, X61, e61, st61⟩ := getF X0 hx hZ hown (host := "") (Or.inl (hw _ (List.mem_of_getElem? (i := 48) rfl))) Via.refl e0 F_this_shift (g := (mkF m 6 #[.val (.ref this), .val (.long x_), .second] [(.ref this), (.long (x_ * (-7046029254386353131 : Int64)))])) rfl rfl (hb hby own_d11_6)
  refine own_by st61 ?_
  show own_Go p e below T61 (mkF m 9 #[.val (.ref this), .val (.long x_), .second] [(.int ((64 : Int32) - (Int32.ofNat bb))), (.long (x_ * (-7046029254386353131 : Int64)))]) _
  refine own_s_lushr X61.here hx (hb hby own_d11_9) ?_
  refine own_s_l2i X61.here hx (hb hby own_d11_10) ?_
  refine own_retI X61 hx hret hlk (hb hby own_d11_11) (by decide) (by decide) ?_
  exact ⟨rfl, N0, e61⟩
theorem own_d10_0 : decode prog_15_method_11_code 0 = .ok (.aload_n 0, 1) := by decide +kernel
theorem own_d10_1 : decode prog_15_method_11_code 1 = .ok (.lload_n 1, 1) := by decide +kernel
theorem own_d10_2 : decode prog_15_method_11_code 2 = .ok (.invokevirtual 52, 3) := by decide +kernel
theorem own_d10_5 : decode prog_15_method_11_code 5 = .ok (.istore_n 3, 1) := by decide +kernel
theorem own_d10_6 : decode prog_15_method_11_code 6 = .ok (.aload_n 0, 1) := by decide +kernel
theorem own_d10_7 : decode prog_15_method_11_code 7 = .ok (.getfield 31, 3) := by decide +kernel
theorem own_d10_10 : decode prog_15_method_11_code 10 = .ok (.iload_n 3, 1) := by decide +kernel
theorem own_d10_11 : decode prog_15_method_11_code 11 = .ok (.iaload, 1) := by decide +kernel
theorem own_d10_12 : decode prog_15_method_11_code 12 = .ok (.iconst (-1), 1) := by decide +kernel
theorem own_d10_13 : decode prog_15_method_11_code 13 = .ok (.if_icmp .eq 34, 3) := by decide +kernel
theorem own_d10_16 : decode prog_15_method_11_code 16 = .ok (.aload_n 0, 1) := by decide +kernel
theorem own_d10_17 : decode prog_15_method_11_code 17 = .ok (.getfield 19, 3) := by decide +kernel
theorem own_d10_20 : decode prog_15_method_11_code 20 = .ok (.aload_n 0, 1) := by decide +kernel
theorem own_d10_21 : decode prog_15_method_11_code 21 = .ok (.getfield 31, 3) := by decide +kernel
theorem own_d10_24 : decode prog_15_method_11_code 24 = .ok (.iload_n 3, 1) := by decide +kernel
theorem own_d10_25 : decode prog_15_method_11_code 25 = .ok (.iaload, 1) := by decide +kernel
theorem own_d10_26 : decode prog_15_method_11_code 26 = .ok (.laload, 1) := by decide +kernel
theorem own_d10_27 : decode prog_15_method_11_code 27 = .ok (.lload_n 1, 1) := by decide +kernel
theorem own_d10_28 : decode prog_15_method_11_code 28 = .ok (.lcmp, 1) := by decide +kernel
theorem own_d10_29 : decode prog_15_method_11_code 29 = .ok (.ifCond .eq 18, 3) := by decide +kernel
theorem own_d10_32 : decode prog_15_method_11_code 32 = .ok (.iload_n 3, 1) := by decide +kernel
theorem own_d10_33 : decode prog_15_method_11_code 33 = .ok (.iconst 1, 1) := by decide +kernel
theorem own_d10_34 : decode prog_15_method_11_code 34 = .ok (.iadd, 1) := by decide +kernel
theorem own_d10_35 : decode prog_15_method_11_code 35 = .ok (.aload_n 0, 1) := by decide +kernel
theorem own_d10_36 : decode prog_15_method_11_code 36 = .ok (.getfield 31, 3) := by decide +kernel
theorem own_d10_39 : decode prog_15_method_11_code 39 = .ok (.arraylength, 1) := by decide +kernel
theorem own_d10_40 : decode prog_15_method_11_code 40 = .ok (.iconst 1, 1) := by decide +kernel
theorem own_d10_41 : decode prog_15_method_11_code 41 = .ok (.isub, 1) := by decide +kernel
theorem own_d10_42 : decode prog_15_method_11_code 42 = .ok (.iand, 1) := by decide +kernel
theorem own_d10_43 : decode prog_15_method_11_code 43 = .ok (.istore_n 3, 1) := by decide +kernel
theorem own_d10_44 : decode prog_15_method_11_code 44 = .ok (.goto (-38), 3) := by decide +kernel
theorem own_d10_47 : decode prog_15_method_11_code 47 = .ok (.iload_n 3, 1) := by decide +kernel
theorem own_d10_48 : decode prog_15_method_11_code 48 = .ok (.ireturn, 1) := by decide +kernel
theorem own_ef10 (m : MethodId) (this : Addr) (x_ : Int64) : entryFrame m #[(.ref this), (.long x_)] 4 = mkF m 0 #[.val (.ref this), .val (.long x_), .second, .unset] [] := by first | (simp [entryFrame, mkF, argsToLocals, Value.category]; done) | rfl
def own_q_own_r10 (Z : State) (this : Addr) (x_ : Int64) (aI aB : Addr) (bb nI : Nat) (tb : Nat → Int32) (fi : Nat → Int64) (h0 : Heap) (n0 : Nat) (v : Option Value) (h : Heap) (L : List Loc) : Prop := ∃ q : Nat, v = some (.int (Int32.ofNat q)) ∧ Fr n0 L ∧ h = h0 ∧ q < 2 ^ bb ∧ tb q = (-1 : Int32)
set_option maxRecDepth 65536 in
set_option maxHeartbeats 40000000 in
theorem own_r10 (l : Launch) (Z : State) (a0 : Array Value) (hw : ∀ d ∈ tables_1, d.before a0 Z = true) (ws : List Jvm.Cond) (this : Addr) (x_ : Int64) (aI aB : Addr) (bb nI : Nat) (tb : Nat → Int32) (fi : Nat → Int64) (h0 : Heap) (n0 : Nat) (Z0 : n0 ≤ h0.size) (hB : 5 ≤ bb ∧ bb ≤ 12) (hP1 : ∀ i, i < 2 ^ bb → tb i = -1 ∨ ∃ j, j < nI ∧ own_At (tb i) j ∧ ¬ fi j = x_) (hP2 : ∀ i, i < 2 ^ bb → tb i = -1 ∨ tb ((i + 1) % 2 ^ bb) = -1 ∨ tb ((i + 2) % 2 ^ bb) = -1) (E_this : Exa Z h0 this "com/example/geodesic/geodesic/graph/IdIndex") (F_this_ids : Fld Z h0 this "com/example/geodesic/geodesic/graph/IdIndex" "ids" "[J" (.ref aI)) (F_this_table : Fld Z h0 this "com/example/geodesic/geodesic/graph/IdIndex" "table" "[I" (.ref aB)) (F_this_shift : Fld Z h0 this "com/example/geodesic/geodesic/graph/IdIndex" "shift" "I" (.int ((64 : Int32) - (Int32.ofNat bb)))) (A_aI : own_Av Z h0 aI .long nI (fun i => .long (fi i))) (A_aB : own_Av Z h0 aB .int (2 ^ bb) (fun i => .int (tb i))) :
    MetFree l (⟨"com/example/geodesic/geodesic/graph/IdIndex", "probe", "(J)I"⟩ : MethodName) (head1 (Jvm.Cond.code (⟨"com/example/geodesic/geodesic/graph/IdIndex", "probe", "(J)I"⟩ : MethodName) prog_15_method_11_code 4 (some .int) :: ws) ({ frames := 1, cells := 0, slots := 0, locals := 14 } : Room)) (fun aq Uq => aq = #[(.ref this), (.long x_)] ∧ Z.Warmed39 Uq.vm ∧ Uq.heap = h0) (fun _ _ _ _ _ => True) (fun _ Uq oq Uq' => ∃ vq Lq, oq = .returned vq ∧ own_q_own_r10 Z this x_ aI aB bb nI tb fi h0 n0 vq Uq'.heap Lq ∧ FrameEnd Uq oq Uq' Lq ({ frames := 1, cells := 0, slots := 0, locals := 14 } : Room).cells ({ frames := 1, cells := 0, slots := 0, locals := 14 } : Room).slots) := by
  refine MetFree.of_bodySF (plainFor_of_name own_pn_IdIndex) hisR ?_
  intro p e s m args below meth c T0 Bd hml0 hP hK
  obtain ⟨rfl, hZ, hh⟩ := hP
  have hx := Bd.exec
  have hby := Bd.bytes
  have hml : c.maxLocals = 4 := hml0
  have hown : s.vm.findClass "com/example/geodesic/geodesic/graph/IdIndex" = some m.cls := findClass_of_methodNamed Bd.named
  have hnm := (name_of_methodNamed Bd.named Bd.method).1
  have hret : meth.sig.returnType = (some .int) := Bd.returns
  have hlk : meth.locks = false := BodyLoose.notSynchronized Bd
  have X0 : Stand p l e ({ frames := 1, cells := 0, slots := 0, locals := 14 } : Room) s m #[(.ref this), (.long x_)] below meth c T0 [] 0 0 := Stand.of_body Bd
  have e0 : T0.heap = h0 := by rw [← hh, Bd.state]; rfl
  have N0 := Fr.nil n0
  refine own_start (own_ef10 m this x_) (Q := fun (v : Option Value) (h : Heap) (L : List Loc) => ∃ q : Nat, v = some (.int (Int32.ofNat q)) ∧ Fr n0 L ∧ h = h0 ∧ q < 2 ^ bb ∧ tb q = (-1 : Int32)) (k := 0) (j := 0) ?_
  show own_Go p e below T0 (mkF m 0 #[.val (.ref this), .val (.long x_), .second, .unset] []) _
  refine own_s_aloadN X0.here hx (hb hby own_d10_0) rfl rfl ?_
  refine own_s_lloadN X0.here hx (hb hby own_d10_1) rfl ?_
  obtain ⟨cq62, q62, q62'⟩ := E_this.cell
  obtain ⟨_, _, ⟨T62, L62, k62, n62⟩, -, X62, ⟨Lc62, hQ62, l62, y62, z62⟩, st62⟩ := X0.privateBack hx (y := (⟨"com/example/geodesic/geodesic/graph/IdIndex", "home", "(J)I"⟩ : MethodName)) hown (mvT hZ (hw _ (List.mem_of_getElem? (i := 70) rfl))) (mvT hZ (hw _ (List.mem_of_getElem? (i := 71) rfl))) (own_selP (y := (⟨"com/example/geodesic/geodesic/graph/IdIndex", "home", "(J)I"⟩ : MethodName)) hZ (hw _ (List.mem_of_getElem? (i := 5) rfl)) (hw _ (List.mem_of_getElem? (i := 72) rfl)) (hw _ (List.mem_of_getElem? (i := 71) rfl)) (by decide)) (Cond.privateMethod_at (mvP hZ (hw _ (List.mem_of_getElem? (i := 72) rfl)) (args := #[]))) (mvT hZ (hw _ (List.mem_of_getElem? (i := 73) rfl))) (by decide) (backOf (W := 0) (own_r11 l Z a0 hw [] this x_ bb h0 n0 Z0 E_this F_this_shift) hZ (hw _ (List.mem_of_getElem? (i := 73) rfl)) (hw _ (List.mem_of_getElem? (i := 6) rfl)) (by decide) (by decide)) (g := (mkF m 2 #[.val (.ref this), .val (.long x_), .second, .unset] [(.long x_), (.ref this)])) rfl (by rw [hml]; rfl) (Steps.refl _) (a := this) (by rw [e0]; exact q62) q62' (argsL := [(.long x_)]) (rest := []) (lenOf own_pd_4 rfl) rfl (by show 2 * 0 + _ ≤ _; exact Nat.le_of_eq rfl) (hb hby own_d10_2) (fun _ _ => ⟨rfl, e0, (by decide : 0 + 0 ≤ _), (by decide : 0 + 0 ≤ _)⟩)
  dsimp only [Pt.U, Pt.locs, Pt.cells, Pt.slots] at X62 l62 y62 z62 st62 hQ62
  subst l62 y62 z62
  obtain ⟨rfl, N62q, e62⟩ := hQ62
  have N62 := Fr.app N0 N62q
  refine own_by (fun t k => st62.trans k) ?_
  show own_Go p e below T62 (mkF m 5 #[.val (.ref this), .val (.long x_), .second, .unset] [(.int (own_home x_ bb))]) _
  refine own_s_istoreN X62.here hx #[.val (.ref this), .val (.long x_), .second, .val (.int (own_home x_ bb))] (hb hby own_d10_5) rfl ?_
  obtain ⟨q0_, hq0, eq0⟩ := own_homeL x_ hB
  rw [eq0]
  have ix0 : own_At (Int32.ofNat q0_) q0_ := own_ix (by have := own_pw hB; omega)
  show own_Go p e below T62 (mkF m 6 #[.val (.ref this), .val (.long x_), .second, .val (.int (Int32.ofNat q0_))] []) _
  refine own_s_aloadN X62.here hx (hb hby own_d10_6) rfl rfl ?_
  obtain ⟨T63, X63, e63, st63⟩ := getF X62 hx hZ hown (host := "") (Or.inl (hw _ (List.mem_of_getElem? (i := 31) rfl))) Via.refl e62 F_this_table (g := (mkF m 7 #[.val (.ref this), .val (.long x_), .second, .val (.int (Int32.ofNat q0_))] [(.ref this)])) rfl rfl (hb hby own_d10_7)
  refine own_by st63 ?_
  show own_Go p e below T63 (mkF m 10 #[.val (.ref this), .val (.long x_), .second, .val (.int (Int32.ofNat q0_))] [(.ref aB)]) _
  refine own_s_iloadN X63.here hx (hb hby own_d10_10) rfl ?_
  refine own_by (fun tq_ kq_ => own_ldI X63 hx hZ e63 A_aB (k := q0_) (v := (.int (tb q0_))) ix0 hq0 rfl (g := (mkF m 11 #[.val (.ref this), .val (.long x_), .second, .val (.int (Int32.ofNat q0_))] [(.int (Int32.ofNat q0_)), (.ref aB)])) rfl rfl (hb hby own_d10_11) tq_ kq_) ?_
  show own_Go p e below T63 (mkF m 12 #[.val (.ref this), .val (.long x_), .second, .val (.int (Int32.ofNat q0_))] [(.int (tb q0_))]) _
  refine own_s_iconst X63.here hx (-1 : Int32) (hb hby own_d10_12) rfl ?_
  by_cases hc13_0 : (tb q0_) = (-1 : Int32)
  ·
    show own_Go p e below T63 (mkF m 13 #[.val (.ref this), .val (.long x_), .second, .val (.int (Int32.ofNat q0_))] [(.int (-1 : Int32)), (.int (tb q0_))]) _
    refine own_s_icmpYes X63.here hx 47 (hb hby own_d10_13) (Jvm.Free.XT.ii_eq_t hc13_0) (by decide) (by decide) ?_
    refine own_s_iloadN X63.here hx (hb hby own_d10_47) rfl ?_
    refine own_retI X63 hx hret hlk (hb hby own_d10_48) (by decide) (by decide) ?_
    exact ⟨q0_, rfl, N62, e63, hq0, hc13_0⟩
  ·
    refine own_s_icmpNo X63.here hx (hb hby own_d10_13) (Jvm.Free.XT.ii_eq_f hc13_0) ?_
    obtain ⟨j0, lj0, at0, ne0⟩ := (hP1 _ hq0).resolve_left hc13_0
    refine own_s_aloadN X63.here hx (hb hby own_d10_16) rfl rfl ?_
    obtain ⟨T64, X64, e64, st64⟩ := getF X63 hx hZ hown (host := "") (Or.inl (hw _ (List.mem_of_getElem? (i := 25) rfl))) Via.refl e63 F_this_ids (g := (mkF m 17 #[.val (.ref this), .val (.long x_), .second, .val (.int (Int32.ofNat q0_))] [(.ref this)])) rfl rfl (hb hby own_d10_17)
    refine own_by st64 ?_
    show own_Go p e below T64 (mkF m 20 #[.val (.ref this), .val (.long x_), .second, .val (.int (Int32.ofNat q0_))] [(.ref aI)]) _
    refine own_s_aloadN X64.here hx (hb hby own_d10_20) rfl rfl ?_
    obtain ⟨T65, X65, e65, st65⟩ := getF X64 hx hZ hown (host := "") (Or.inl (hw _ (List.mem_of_getElem? (i := 31) rfl))) Via.refl e64 F_this_table (g := (mkF m 21 #[.val (.ref this), .val (.long x_), .second, .val (.int (Int32.ofNat q0_))] [(.ref this), (.ref aI)])) rfl rfl (hb hby own_d10_21)
    refine own_by st65 ?_
    show own_Go p e below T65 (mkF m 24 #[.val (.ref this), .val (.long x_), .second, .val (.int (Int32.ofNat q0_))] [(.ref aB), (.ref aI)]) _
    refine own_s_iloadN X65.here hx (hb hby own_d10_24) rfl ?_
    refine own_by (fun tq_ kq_ => own_ldI X65 hx hZ e65 A_aB (k := q0_) (v := (.int (tb q0_))) ix0 hq0 rfl (g := (mkF m 25 #[.val (.ref this), .val (.long x_), .second, .val (.int (Int32.ofNat q0_))] [(.int (Int32.ofNat q0_)), (.ref aB), (.ref aI)])) rfl rfl (hb hby own_d10_25) tq_ kq_) ?_
    show own_Go p e below T65 (mkF m 26 #[.val (.ref this), .val (.long x_), .second, .val (.int (Int32.ofNat q0_))] [(.int (tb q0_)), (.ref aI)]) _
    refine own_by (fun tq_ kq_ => own_ldJ X65 hx hZ e65 A_aI (k := j0) (v := (.long (fi j0))) at0 lj0 rfl (g := (mkF m 26 #[.val (.ref this), .val (.long x_), .second, .val (.int (Int32.ofNat q0_))] [(.int (tb q0_)), (.ref aI)])) rfl rfl (hb hby own_d10_26) tq_ kq_) ?_
    show own_Go p e below T65 (mkF m 27 #[.val (.ref this), .val (.long x_), .second, .val (.int (Int32.ofNat q0_))] [(.long (fi j0))]) _
    refine own_s_lloadN X65.here hx (hb hby own_d10_27) rfl ?_
    refine own_s_lcmp X65.here hx (hb hby own_d10_28) ?_
    refine own_s_ifNo X65.here hx (hb hby own_d10_29) (Jvm.Free.XT.ll_eq_f ne0) ?_
    refine own_s_iloadN X65.here hx (hb hby own_d10_32) rfl ?_
    refine own_s_iconst X65.here hx (1 : Int32) (hb hby own_d10_33) rfl ?_
    refine own_s_iadd X65.here hx (hb hby own_d10_34) ?_
    refine own_s_aloadN X65.here hx (hb hby own_d10_35) rfl rfl ?_
    obtain ⟨T66, X66, e66, st66⟩ := getF X65 hx hZ hown (host := "") (Or.inl (hw _ (List.mem_of_getElem? (i := 31) rfl))) Via.refl e65 F_this_table (g := (mkF m 36 #[.val (.ref this), .val (.long x_), .second, .val (.int (Int32.ofNat q0_))] [(.ref this), (.int ((Int32.ofNat q0_) + (1 : Int32)))])) rfl rfl (hb hby own_d10_36)
    refine own_by st66 ?_
    show own_Go p e below T66 (mkF m 39 #[.val (.ref this), .val (.long x_), .second, .val (.int (Int32.ofNat q0_))] [(.ref aB), (.int ((Int32.ofNat q0_) + (1 : Int32)))]) _
    refine own_by (fun tq_ kq_ => own_len X66 hx hZ e66 A_aB (z := (Int32.ofNat (2 ^ bb))) rfl (g := (mkF m 39 #[.val (.ref this), .val (.long x_), .second, .val (.int (Int32.ofNat q0_))] [(.ref aB), (.int ((Int32.ofNat q0_) + (1 : Int32)))])) rfl rfl (hb hby own_d10_39) tq_ kq_) ?_
    show own_Go p e below T66 (mkF m 40 #[.val (.ref this), .val (.long x_), .second, .val (.int (Int32.ofNat q0_))] [(.int (Int32.ofNat (2 ^ bb))), (.int ((Int32.ofNat q0_) + (1 : Int32)))]) _
    refine own_s_iconst X66.here hx (1 : Int32) (hb hby own_d10_40) rfl ?_
    refine own_s_isub X66.here hx (hb hby own_d10_41) ?_
    refine own_s_iand X66.here hx (hb hby own_d10_42) ?_
    rw [own_nx hB]
    show own_Go p e below T66 (mkF m 43 #[.val (.ref this), .val (.long x_), .second, .val (.int (Int32.ofNat q0_))] [(.int (Int32.ofNat ((q0_ + 1) % 2 ^ bb)))]) _
    refine own_s_istoreN X66.here hx #[.val (.ref this), .val (.long x_), .second, .val (.int (Int32.ofNat ((q0_ + 1) % 2 ^ bb)))] (hb hby own_d10_43) rfl ?_
    show own_Go p e below T66 (mkF m 44 #[.val (.ref this), .val (.long x_), .second, .val (.int (Int32.ofNat ((q0_ + 1) % 2 ^ bb)))] []) _
    refine own_s_goto X66.here hx 6 (hb hby own_d10_44) (by decide) (by decide) ?_
    have hq1 : (q0_ + 1) % 2 ^ bb < 2 ^ bb := Nat.mod_lt _ (by have := own_pw hB; omega)
    have ix1 : own_At (Int32.ofNat ((q0_ + 1) % 2 ^ bb)) ((q0_ + 1) % 2 ^ bb) := own_ix (by have := own_pw hB; omega)
    show own_Go p e below T66 (mkF m 6 #[.val (.ref this), .val (.long x_), .second, .val (.int (Int32.ofNat ((q0_ + 1) % 2 ^ bb)))] []) _
    refine own_s_aloadN X66.here hx (hb hby own_d10_6) rfl rfl ?_
    obtain ⟨T67, X67, e67, st67⟩ := getF X66 hx hZ hown (host := "") (Or.inl (hw _ (List.mem_of_getElem? (i := 31) rfl))) Via.refl e66 F_this_table (g := (mkF m 7 #[.val (.ref this), .val (.long x_), .second, .val (.int (Int32.ofNat ((q0_ + 1) % 2 ^ bb)))] [(.ref this)])) rfl rfl (hb hby own_d10_7)
    refine own_by st67 ?_
    show own_Go p e below T67 (mkF m 10 #[.val (.ref this), .val (.long x_), .second, .val (.int (Int32.ofNat ((q0_ + 1) % 2 ^ bb)))] [(.ref aB)]) _
    refine own_s_iloadN X67.here hx (hb hby own_d10_10) rfl ?_
    refine own_by (fun tq_ kq_ => own_ldI X67 hx hZ e67 A_aB (k := ((q0_ + 1) % 2 ^ bb)) (v := (.int (tb ((q0_ + 1) % 2 ^ bb)))) ix1 hq1 rfl (g := (mkF m 11 #[.val (.ref this), .val (.long x_), .second, .val (.int (Int32.ofNat ((q0_ + 1) % 2 ^ bb)))] [(.int (Int32.ofNat ((q0_ + 1) % 2 ^ bb))), (.ref aB)])) rfl rfl (hb hby own_d10_11) tq_ kq_) ?_
    show own_Go p e below T67 (mkF m 12 #[.val (.ref this), .val (.long x_), .second, .val (.int (Int32.ofNat ((q0_ + 1) % 2 ^ bb)))] [(.int (tb ((q0_ + 1) % 2 ^ bb)))]) _
    refine own_s_iconst X67.here hx (-1 : Int32) (hb hby own_d10_12) rfl ?_
    by_cases hc13_1 : (tb ((q0_ + 1) % 2 ^ bb)) = (-1 : Int32)
    ·
      show own_Go p e below T67 (mkF m 13 #[.val (.ref this), .val (.long x_), .second, .val (.int (Int32.ofNat ((q0_ + 1) % 2 ^ bb)))] [(.int (-1 : Int32)), (.int (tb ((q0_ + 1) % 2 ^ bb)))]) _
      refine own_s_icmpYes X67.here hx 47 (hb hby own_d10_13) (Jvm.Free.XT.ii_eq_t hc13_1) (by decide) (by decide) ?_
      refine own_s_iloadN X67.here hx (hb hby own_d10_47) rfl ?_
      refine own_retI X67 hx hret hlk (hb hby own_d10_48) (by decide) (by decide) ?_
      exact ⟨((q0_ + 1) % 2 ^ bb), rfl, N62, e67, hq1, hc13_1⟩
    ·
      refine own_s_icmpNo X67.here hx (hb hby own_d10_13) (Jvm.Free.XT.ii_eq_f hc13_1) ?_
      obtain ⟨j1, lj1, at1, ne1⟩ := (hP1 _ hq1).resolve_left hc13_1
      refine own_s_aloadN X67.here hx (hb hby own_d10_16) rfl rfl ?_
      obtain ⟨T68, X68, e68, st68⟩ := getF X67 hx hZ hown (host := "") (Or.inl (hw _ (List.mem_of_getElem? (i := 25) rfl))) Via.refl e67 F_this_ids (g := (mkF m 17 #[.val (.ref this), .val (.long x_), .second, .val (.int (Int32.ofNat ((q0_ + 1) % 2 ^ bb)))] [(.ref this)])) rfl rfl (hb hby own_d10_17)
      refine own_by st68 ?_
      show own_Go p e below T68 (mkF m 20 #[.val (.ref this), .val (.long x_), .second, .val (.int (Int32.ofNat ((q0_ + 1) % 2 ^ bb)))] [(.ref aI)]) _
      refine own_s_aloadN X68.here hx (hb hby own_d10_20) rfl rfl ?_
      obtain ⟨T69, X69, e69, st69⟩ := getF X68 hx hZ hown (host := "") (Or.inl (hw _ (List.mem_of_getElem? (i := 31) rfl))) Via.refl e68 F_this_table (g := (mkF m 21 #[.val (.ref this), .val (.long x_), .second, .val (.int (Int32.ofNat ((q0_ + 1) % 2 ^ bb)))] [(.ref this), (.ref aI)])) rfl rfl (hb hby own_d10_21)
      refine own_by st69 ?_
      show own_Go p e below T69 (mkF m 24 #[.val (.ref this), .val (.long x_), .second, .val (.int (Int32.ofNat ((q0_ + 1) % 2 ^ bb)))] [(.ref aB), (.ref aI)]) _
      refine own_s_iloadN X69.here hx (hb hby own_d10_24) rfl ?_
      refine own_by (fun tq_ kq_ => own_ldI X69 hx hZ e69 A_aB (k := ((q0_ + 1) % 2 ^ bb)) (v := (.int (tb ((q0_ + 1) % 2 ^ bb)))) ix1 hq1 rfl (g := (mkF m 25 #[.val (.ref this), .val (.long x_), .second, .val (.int (Int32.ofNat ((q0_ + 1) % 2 ^ bb)))] [(.int (Int32.ofNat ((q0_ + 1) % 2 ^ bb))), (.ref aB), (.ref aI)])) rfl rfl (hb hby own_d10_25) tq_ kq_) ?_
      show own_Go p e below T69 (mkF m 26 #[.val (.ref this), .val (.long x_), .second, .val (.int (Int32.ofNat ((q0_ + 1) % 2 ^ bb)))] [(.int (tb ((q0_ + 1) % 2 ^ bb))), (.ref aI)]) _
      refine own_by (fun tq_ kq_ => own_ldJ X69 hx hZ e69 A_aI (k := j1) (v := (.long (fi j1))) at1 lj1 rfl (g := (mkF m 26 #[.val (.ref this), .val (.long x_), .second, .val (.int (Int32.ofNat ((q0_ + 1) % 2 ^ bb)))] [(.int (tb ((q0_ + 1) % 2 ^ bb))), (.ref aI)])) rfl rfl (hb hby own_d10_26) tq_ kq_) ?_
      show own_Go p e below T69 (mkF m 27 #[.val (.ref this), .val (.long x_), .second, .val (.int (Int32.ofNat ((q0_ + 1) % 2 ^ bb)))] [(.long (fi j1))]) _
      refine own_s_lloadN X69.here hx (hb hby own_d10_27) rfl ?_
      refine own_s_lcmp X69.here hx (hb hby own_d10_28) ?_
      refine own_s_ifNo X69.here hx (hb hby own_d10_29) (Jvm.Free.XT.ll_eq_f ne1) ?_
      refine own_s_iloadN X69.here hx (hb hby own_d10_32) rfl ?_
      refine own_s_iconst X69.here hx (1 : Int32) (hb hby own_d10_33) rfl ?_
      refine own_s_iadd X69.here hx (hb hby own_d10_34) ?_
      refine own_s_aloadN X69.here hx (hb hby own_d10_35) rfl rfl ?_
      obtain ⟨T70, X70, e70, st70⟩ := getF X69 hx hZ hown (host := "") (Or.inl (hw _ (List.mem_of_getElem? (i := 31) rfl))) Via.refl e69 F_this_table (g := (mkF m 36 #[.val (.ref this), .val (.long x_), .second, .val (.int (Int32.ofNat ((q0_ + 1) % 2 ^ bb)))] [(.ref this), (.int ((Int32.ofNat ((q0_ + 1) % 2 ^ bb)) + (1 : Int32)))])) rfl rfl (hb hby own_d10_36)
      refine own_by st70 ?_
      show own_Go p e below T70 (mkF m 39 #[.val (.ref this), .val (.long x_), .second, .val (.int (Int32.ofNat ((q0_ + 1) % 2 ^ bb)))] [(.ref aB), (.int ((Int32.ofNat ((q0_ + 1) % 2 ^ bb)) + (1 : Int32)))]) _
      refine own_by (fun tq_ kq_ => own_len X70 hx hZ e70 A_aB (z := (Int32.ofNat (2 ^ bb))) rfl (g := (mkF m 39 #[.val (.ref this), .val (.long x_), .second, .val (.int (Int32.ofNat ((q0_ + 1) % 2 ^ bb)))] [(.ref aB), (.int ((Int32.ofNat ((q0_ + 1) % 2 ^ bb)) + (1 : Int32)))])) rfl rfl (hb hby own_d10_39) tq_ kq_) ?_
      show own_Go p e below T70 (mkF m 40 #[.val (.ref this), .val (.long x_), .second, .val (.int (Int32.ofNat ((q0_ + 1) % 2 ^ bb)))] [(.int (Int32.ofNat (2 ^ bb))), (.int ((Int32.ofNat ((q0_ + 1) % 2 ^ bb)) + (1 : Int32)))]) _
      refine own_s_iconst X70.here hx (1 : Int32) (hb hby own_d10_40) rfl ?_
      refine own_s_isub X70.here hx (hb hby own_d10_41) ?_
      refine own_s_iand X70.here hx (hb hby own_d10_42) ?_
      rw [own_nx hB]
      rw [Nat.mod_add_mod]
      show own_Go p e below T70 (mkF m 43 #[.val (.ref this), .val (.long x_), .second, .val (.int (Int32.ofNat ((q0_ + 1) % 2 ^ bb)))] [(.int (Int32.ofNat ((q0_ + 2) % 2 ^ bb)))]) _
      refine own_s_istoreN X70.here hx #[.val (.ref this), .val (.long x_), .second, .val (.int (Int32.ofNat ((q0_ + 2) % 2 ^ bb)))] (hb hby own_d10_43) rfl ?_
      show own_Go p e below T70 (mkF m 44 #[.val (.ref this), .val (.long x_), .second, .val (.int (Int32.ofNat ((q0_ + 2) % 2 ^ bb)))] []) _
      refine own_s_goto X70.here hx 6 (hb hby own_d10_44) (by decide) (by decide) ?_
      have hq2 : (q0_ + 2) % 2 ^ bb < 2 ^ bb := Nat.mod_lt _ (by have := own_pw hB; omega)
      have ix2 : own_At (Int32.ofNat ((q0_ + 2) % 2 ^ bb)) ((q0_ + 2) % 2 ^ bb) := own_ix (by have := own_pw hB; omega)
      show own_Go p e below T70 (mkF m 6 #[.val (.ref this), .val (.long x_), .second, .val (.int (Int32.ofNat ((q0_ + 2) % 2 ^ bb)))] []) _
      refine own_s_aloadN X70.here hx (hb hby own_d10_6) rfl rfl ?_
      obtain ⟨T71, X71, e71, st71⟩ := getF X70 hx hZ hown (host := "") (Or.inl (hw _ (List.mem_of_getElem? (i := 31) rfl))) Via.refl e70 F_this_table (g := (mkF m 7 #[.val (.ref this), .val (.long x_), .second, .val (.int (Int32.ofNat ((q0_ + 2) % 2 ^ bb)))] [(.ref this)])) rfl rfl (hb hby own_d10_7)
      refine own_by st71 ?_
      show own_Go p e below T71 (mkF m 10 #[.val (.ref this), .val (.long x_), .second, .val (.int (Int32.ofNat ((q0_ + 2) % 2 ^ bb)))] [(.ref aB)]) _
      refine own_s_iloadN X71.here hx (hb hby own_d10_10) rfl ?_
      refine own_by (fun tq_ kq_ => own_ldI X71 hx hZ e71 A_aB (k := ((q0_ + 2) % 2 ^ bb)) (v := (.int (tb ((q0_ + 2) % 2 ^ bb)))) ix2 hq2 rfl (g := (mkF m 11 #[.val (.ref this), .val (.long x_), .second, .val (.int (Int32.ofNat ((q0_ + 2) % 2 ^ bb)))] [(.int (Int32.ofNat ((q0_ + 2) % 2 ^ bb))), (.ref aB)])) rfl rfl (hb hby own_d10_11) tq_ kq_) ?_
      show own_Go p e below T71 (mkF m 12 #[.val (.ref this), .val (.long x_), .second, .val (.int (Int32.ofNat ((q0_ + 2) % 2 ^ bb)))] [(.int (tb ((q0_ + 2) % 2 ^ bb)))]) _
      refine own_s_iconst X71.here hx (-1 : Int32) (hb hby own_d10_12) rfl ?_
      show own_Go p e below T71 (mkF m 13 #[.val (.ref this), .val (.long x_), .second, .val (.int (Int32.ofNat ((q0_ + 2) % 2 ^ bb)))] [(.int (-1 : Int32)), (.int (tb ((q0_ + 2) % 2 ^ bb)))]) _
      refine own_s_icmpYes X71.here hx 47 (hb hby own_d10_13) (Jvm.Free.XT.ii_eq_t ((((hP2 q0_ hq0).resolve_left hc13_0).resolve_left hc13_1))) (by decide) (by decide) ?_
      refine own_s_iloadN X71.here hx (hb hby own_d10_47) rfl ?_
      refine own_retI X71 hx hret hlk (hb hby own_d10_48) (by decide) (by decide) ?_
      exact ⟨((q0_ + 2) % 2 ^ bb), rfl, N62, e71, hq2, ((hP2 q0_ hq0).resolve_left hc13_0).resolve_left hc13_1⟩
theorem own_mx {kk : Nat} (h : kk ≤ 2) : own_f1 (Int32.ofNat kk) ((Int32.ofNat kk) + (1 : Int32)) = Int32.ofNat (kk + 1) := by
  have : kk = 0 ∨ kk = 1 ∨ kk = 2 := by omega
  rcases this with rfl | rfl | rfl <;> decide
theorem own_d12_0 : decode prog_15_method_10_code 0 = .ok (.iload 4, 2) := by decide +kernel
theorem own_d12_2 : decode prog_15_method_10_code 2 = .ok (.ldc 69, 2) := by decide +kernel
theorem own_d12_4 : decode prog_15_method_10_code 4 = .ok (.if_icmp .lt 20, 3) := by decide +kernel
theorem own_d12_7 : decode prog_15_method_10_code 7 = .ok (.new 70, 3) := by decide +kernel
theorem own_d12_10 : decode prog_15_method_10_code 10 = .ok (.dup, 1) := by decide +kernel
theorem own_d12_11 : decode prog_15_method_10_code 11 = .ok (.aload_n 0, 1) := by decide +kernel
theorem own_d12_12 : decode prog_15_method_10_code 12 = .ok (.getfield 7, 3) := by decide +kernel
theorem own_d12_20 : decode prog_15_method_10_code 20 = .ok (.invokespecial 75, 3) := by decide +kernel
theorem own_d12_23 : decode prog_15_method_10_code 23 = .ok (.athrow, 1) := by decide +kernel
theorem own_d12_24 : decode prog_15_method_10_code 24 = .ok (.iload 4, 2) := by decide +kernel
theorem own_d12_26 : decode prog_15_method_10_code 26 = .ok (.aload_n 0, 1) := by decide +kernel
theorem own_d12_27 : decode prog_15_method_10_code 27 = .ok (.getfield 19, 3) := by decide +kernel
theorem own_d12_30 : decode prog_15_method_10_code 30 = .ok (.arraylength, 1) := by decide +kernel
theorem own_d12_31 : decode prog_15_method_10_code 31 = .ok (.if_icmp .lt 44, 3) := by decide +kernel
theorem own_d12_34 : decode prog_15_method_10_code 34 = .ok (.aload_n 0, 1) := by decide +kernel
theorem own_d12_35 : decode prog_15_method_10_code 35 = .ok (.aload_n 0, 1) := by decide +kernel
theorem own_d12_36 : decode prog_15_method_10_code 36 = .ok (.getfield 19, 3) := by decide +kernel
theorem own_d12_39 : decode prog_15_method_10_code 39 = .ok (.iload 4, 2) := by decide +kernel
theorem own_d12_41 : decode prog_15_method_10_code 41 = .ok (.i2l, 1) := by decide +kernel
theorem own_d12_42 : decode prog_15_method_10_code 42 = .ok (.lconst 1, 1) := by decide +kernel
theorem own_d12_43 : decode prog_15_method_10_code 43 = .ok (.ladd, 1) := by decide +kernel
theorem own_d12_44 : decode prog_15_method_10_code 44 = .ok (.aload_n 0, 1) := by decide +kernel
theorem own_d12_45 : decode prog_15_method_10_code 45 = .ok (.getfield 27, 3) := by decide +kernel
theorem own_d12_48 : decode prog_15_method_10_code 48 = .ok (.i2l, 1) := by decide +kernel
theorem own_d12_49 : decode prog_15_method_10_code 49 = .ok (.aload_n 0, 1) := by decide +kernel
theorem own_d12_50 : decode prog_15_method_10_code 50 = .ok (.getfield 27, 3) := by decide +kernel
theorem own_d12_53 : decode prog_15_method_10_code 53 = .ok (.iconst 1, 1) := by decide +kernel
theorem own_d12_54 : decode prog_15_method_10_code 54 = .ok (.ishr, 1) := by decide +kernel
theorem own_d12_55 : decode prog_15_method_10_code 55 = .ok (.i2l, 1) := by decide +kernel
theorem own_d12_56 : decode prog_15_method_10_code 56 = .ok (.ladd, 1) := by decide +kernel
theorem own_d12_57 : decode prog_15_method_10_code 57 = .ok (.lconst 1, 1) := by decide +kernel
theorem own_d12_58 : decode prog_15_method_10_code 58 = .ok (.ladd, 1) := by decide +kernel
theorem own_d12_59 : decode prog_15_method_10_code 59 = .ok (.invokestatic 76, 3) := by decide +kernel
theorem own_d12_62 : decode prog_15_method_10_code 62 = .ok (.ldc2_w 79, 3) := by decide +kernel
theorem own_d12_65 : decode prog_15_method_10_code 65 = .ok (.invokestatic 81, 3) := by decide +kernel
theorem own_d12_68 : decode prog_15_method_10_code 68 = .ok (.l2i, 1) := by decide +kernel
theorem own_d12_69 : decode prog_15_method_10_code 69 = .ok (.invokestatic 63, 3) := by decide +kernel
theorem own_d12_72 : decode prog_15_method_10_code 72 = .ok (.putfield 19, 3) := by decide +kernel
theorem own_d12_75 : decode prog_15_method_10_code 75 = .ok (.aload_n 0, 1) := by decide +kernel
theorem own_d12_76 : decode prog_15_method_10_code 76 = .ok (.getfield 19, 3) := by decide +kernel
theorem own_d12_79 : decode prog_15_method_10_code 79 = .ok (.iload 4, 2) := by decide +kernel
theorem own_d12_81 : decode prog_15_method_10_code 81 = .ok (.lload_n 2, 1) := by decide +kernel
theorem own_d12_82 : decode prog_15_method_10_code 82 = .ok (.lastore, 1) := by decide +kernel
theorem own_d12_83 : decode prog_15_method_10_code 83 = .ok (.aload_n 0, 1) := by decide +kernel
theorem own_d12_84 : decode prog_15_method_10_code 84 = .ok (.aload_n 0, 1) := by decide +kernel
theorem own_d12_85 : decode prog_15_method_10_code 85 = .ok (.getfield 27, 3) := by decide +kernel
theorem own_d12_88 : decode prog_15_method_10_code 88 = .ok (.iload 4, 2) := by decide +kernel
theorem own_d12_90 : decode prog_15_method_10_code 90 = .ok (.iconst 1, 1) := by decide +kernel
theorem own_d12_91 : decode prog_15_method_10_code 91 = .ok (.iadd, 1) := by decide +kernel
theorem own_d12_92 : decode prog_15_method_10_code 92 = .ok (.invokestatic 13, 3) := by decide +kernel
theorem own_d12_95 : decode prog_15_method_10_code 95 = .ok (.putfield 27, 3) := by decide +kernel
theorem own_d12_98 : decode prog_15_method_10_code 98 = .ok (.ldc2_w 84, 3) := by decide +kernel
theorem own_d12_101 : decode prog_15_method_10_code 101 = .ok (.aload_n 0, 1) := by decide +kernel
theorem own_d12_102 : decode prog_15_method_10_code 102 = .ok (.getfield 27, 3) := by decide +kernel
theorem own_d12_105 : decode prog_15_method_10_code 105 = .ok (.i2l, 1) := by decide +kernel
theorem own_d12_106 : decode prog_15_method_10_code 106 = .ok (.lmul, 1) := by decide +kernel
theorem own_d12_107 : decode prog_15_method_10_code 107 = .ok (.aload_n 0, 1) := by decide +kernel
theorem own_d12_108 : decode prog_15_method_10_code 108 = .ok (.getfield 31, 3) := by decide +kernel
theorem own_d12_111 : decode prog_15_method_10_code 111 = .ok (.arraylength, 1) := by decide +kernel
theorem own_d12_112 : decode prog_15_method_10_code 112 = .ok (.i2l, 1) := by decide +kernel
theorem own_d12_113 : decode prog_15_method_10_code 113 = .ok (.lcmp, 1) := by decide +kernel
theorem own_d12_114 : decode prog_15_method_10_code 114 = .ok (.ifCond .le 28, 3) := by decide +kernel
theorem own_d12_117 : decode prog_15_method_10_code 117 = .ok (.aload_n 0, 1) := by decide +kernel
theorem own_d12_118 : decode prog_15_method_10_code 118 = .ok (.iconst 2, 1) := by decide +kernel
theorem own_d12_119 : decode prog_15_method_10_code 119 = .ok (.aload_n 0, 1) := by decide +kernel
theorem own_d12_120 : decode prog_15_method_10_code 120 = .ok (.getfield 27, 3) := by decide +kernel
theorem own_d12_123 : decode prog_15_method_10_code 123 = .ok (.imul, 1) := by decide +kernel
theorem own_d12_124 : decode prog_15_method_10_code 124 = .ok (.invokevirtual 23, 3) := by decide +kernel
theorem own_d12_127 : decode prog_15_method_10_code 127 = .ok (.aload_n 0, 1) := by decide +kernel
theorem own_d12_128 : decode prog_15_method_10_code 128 = .ok (.getfield 31, 3) := by decide +kernel
theorem own_d12_131 : decode prog_15_method_10_code 131 = .ok (.aload_n 0, 1) := by decide +kernel
theorem own_d12_132 : decode prog_15_method_10_code 132 = .ok (.lload_n 2, 1) := by decide +kernel
theorem own_d12_133 : decode prog_15_method_10_code 133 = .ok (.invokevirtual 35, 3) := by decide +kernel
theorem own_d12_136 : decode prog_15_method_10_code 136 = .ok (.iload 4, 2) := by decide +kernel
theorem own_d12_138 : decode prog_15_method_10_code 138 = .ok (.iastore, 1) := by decide +kernel
theorem own_d12_139 : decode prog_15_method_10_code 139 = .ok (.goto 11, 3) := by decide +kernel
theorem own_d12_142 : decode prog_15_method_10_code 142 = .ok (.aload_n 0, 1) := by decide +kernel
theorem own_d12_143 : decode prog_15_method_10_code 143 = .ok (.getfield 31, 3) := by decide +kernel
theorem own_d12_146 : decode prog_15_method_10_code 146 = .ok (.iload_n 1, 1) := by decide +kernel
theorem own_d12_147 : decode prog_15_method_10_code 147 = .ok (.iload 4, 2) := by decide +kernel
theorem own_d12_149 : decode prog_15_method_10_code 149 = .ok (.iastore, 1) := by decide +kernel
theorem own_d12_150 : decode prog_15_method_10_code 150 = .ok (.return_, 1) := by decide +kernel
theorem own_ef12 (m : MethodId) (this : Addr) (sl_ : Int32) (x_ : Int64) (ix_ : Int32) : entryFrame m #[(.ref this), (.int sl_), (.long x_), (.int ix_)] 5 = mkF m 0 #[.val (.ref this), .val (.int sl_), .val (.long x_), .second, .val (.int ix_)] [] := by first | (simp [entryFrame, mkF, argsToLocals, Value.category]; done) | rfl
def own_q_own_r12 (Z : State) (this : Addr) (sl_ : Int32) (x_ : Int64) (ix_ : Int32) (aI aB : Addr) (bb nI : Nat) (tb : Nat → Int32) (fi : Nat → Int64) (q_ kk : Nat) (h0 : Heap) (n0 : Nat) (v : Option Value) (h : Heap) (L : List Loc) : Prop := v = none ∧ Fr n0 L ∧ Keep h0 h [this, aI, aB] ∧ Fld Z h this "com/example/geodesic/geodesic/graph/IdIndex" "ids" "[J" (.ref aI) ∧ Fld Z h this "com/example/geodesic/geodesic/graph/IdIndex" "size" "I" (.int (Int32.ofNat (kk + 1))) ∧ Fld Z h this "com/example/geodesic/geodesic/graph/IdIndex" "table" "[I" (.ref aB) ∧ Fld Z h this "com/example/geodesic/geodesic/graph/IdIndex" "shift" "I" (.int ((64 : Int32) - (Int32.ofNat bb))) ∧ own_Av Z h aI .long nI (fun i => .long (if i = kk then x_ else fi i)) ∧ own_Av Z h aB .int (2 ^ bb) (fun i => .int (if i = q_ then Int32.ofNat kk else tb i))
set_option maxRecDepth 65536 in
set_option maxHeartbeats 40000000 in
theorem own_r12 (l : Launch) (Z : State) (a0 : Array Value) (hw : ∀ d ∈ tables_1, d.before a0 Z = true) (ws : List Jvm.Cond) (this : Addr) (sl_ : Int32) (x_ : Int64) (ix_ : Int32) (aI aB : Addr) (bb nI : Nat) (tb : Nat → Int32) (fi : Nat → Int64) (q_ kk : Nat) (h0 : Heap) (n0 : Nat) (Z0 : n0 ≤ h0.size) (hB : 5 ≤ bb ∧ bb ≤ 12) (hsl : sl_ = Int32.ofNat q_) (hix : ix_ = Int32.ofNat kk) (hkk : kk ≤ 2) (hnI : 16 ≤ nI ∧ nI ≤ 2047) (hq : q_ < 2 ^ bb) (E_this : Exa Z h0 this "com/example/geodesic/geodesic/graph/IdIndex") (F_this_ids : Fld Z h0 this "com/example/geodesic/geodesic/graph/IdIndex" "ids" "[J" (.ref aI)) (F_this_size : Fld Z h0 this "com/example/geodesic/geodesic/graph/IdIndex" "size" "I" (.int (Int32.ofNat kk))) (F_this_table : Fld Z h0 this "com/example/geodesic/geodesic/graph/IdIndex" "table" "[I" (.ref aB)) (F_this_shift : Fld Z h0 this "com/example/geodesic/geodesic/graph/IdIndex" "shift" "I" (.int ((64 : Int32) - (Int32.ofNat bb)))) (ge_this : n0 ≤ this) (A_aI : own_Av Z h0 aI .long nI (fun i => .long (fi i))) (ge_aI : n0 ≤ aI) (A_aB : own_Av Z h0 aB .int (2 ^ bb) (fun i => .int (tb i))) (ge_aB : n0 ≤ aB) (ne_this_aI : this ≠ aI) (ne_this_aB : this ≠ aB) (ne_aI_aB : aI ≠ aB) :
    MetFree l (⟨"com/example/geodesic/geodesic/graph/IdIndex", "insert", "(IJI)V"⟩ : MethodName) (head1 (Jvm.Cond.code (⟨"com/example/geodesic/geodesic/graph/IdIndex", "insert", "(IJI)V"⟩ : MethodName) prog_15_method_10_code 5 none :: ws) ({ frames := 1, cells := 0, slots := 0, locals := 14 } : Room)) (fun aq Uq => aq = #[(.ref this), (.int sl_), (.long x_), (.int ix_)] ∧ Z.Warmed39 Uq.vm ∧ Uq.heap = h0) (fun _ _ _ _ _ => True) (fun _ Uq oq Uq' => ∃ vq Lq, oq = .returned vq ∧ own_q_own_r12 Z this sl_ x_ ix_ aI aB bb nI tb fi q_ kk h0 n0 vq Uq'.heap Lq ∧ FrameEnd Uq oq Uq' Lq ({ frames := 1, cells := 0, slots := 0, locals := 14 } : Room).cells ({ frames := 1, cells := 0, slots := 0, locals := 14 } : Room).slots) := by
  refine MetFree.of_bodySF (plainFor_of_name own_pn_IdIndex) hisR ?_
  intro p e s m args below meth c T0 Bd hml0 hP hK
  obtain ⟨rfl, hZ, hh⟩ := hP
  have hx := Bd.exec
  have hby := Bd.bytes
  have hml : c.maxLocals = 5 := hml0
  have hown : s.vm.findClass "com/example/geodesic/geodesic/graph/IdIndex" = some m.cls := findClass_of_methodNamed Bd.named
  have hnm := (name_of_methodNamed Bd.named Bd.method).1
  have hret : meth.sig.returnType = none := Bd.returns
  have hlk : meth.locks = false := BodyLoose.notSynchronized Bd
  have X0 : Stand p l e ({ frames := 1, cells := 0, slots := 0, locals := 14 } : Room) s m #[(.ref this), (.int sl_), (.long x_), (.int ix_)] below meth c T0 [] 0 0 := Stand.of_body Bd
  have e0 : T0.heap = h0 := by rw [← hh, Bd.state]; rfl
  have N0 := Fr.nil n0
  refine own_start (own_ef12 m this sl_ x_ ix_) (Q := fun (v : Option Value) (h : Heap) (L : List Loc) => v = none ∧ Fr n0 L ∧ Keep h0 h [this, aI, aB] ∧ Fld Z h this "com/example/geodesic/geodesic/graph/IdIndex" "ids" "[J" (.ref aI) ∧ Fld Z h this "com/example/geodesic/geodesic/graph/IdIndex" "size" "I" (.int (Int32.ofNat (kk + 1))) ∧ Fld Z h this "com/example/geodesic/geodesic/graph/IdIndex" "table" "[I" (.ref aB) ∧ Fld Z h this "com/example/geodesic/geodesic/graph/IdIndex" "shift" "I" (.int ((64 : Int32) - (Int32.ofNat bb))) ∧ own_Av Z h aI .long nI (fun i => .long (if i = kk then x_ else fi i)) ∧ own_Av Z h aB .int (2 ^ bb) (fun i => .int (if i = q_ then Int32.ofNat kk else tb i))) (k := 0) (j := 0) ?_
  show own_Go p e below T0 (mkF m 0 #[.val (.ref this), .val (.int sl_), .val (.long x_), .second, .val (.int ix_)] []) _
  subst hsl hix
  have hpw := own_pw hB
  have K0 := Keep.refl h0 [this, aI, aB]
  show own_Go p e below T0 (mkF m 0 #[.val (.ref this), .val (.int (Int32.ofNat q_)), .val (.long x_), .second, .val (.int (Int32.ofNat kk))] []) _
  refine own_s_iload X0.here hx (hb hby own_d12_0) rfl ?_
  refine own_by (fun tq_ kq_ => X0.ldcInt hx hown (mvT hZ (hw _ (List.mem_of_getElem? (i := 81) rfl))) (g := (mkF m 2 #[.val (.ref this), .val (.int (Int32.ofNat q_)), .val (.long x_), .second, .val (.int (Int32.ofNat kk))] [(.int (Int32.ofNat kk))])) rfl (hb hby own_d12_2) tq_ kq_) ?_
  show own_Go p e below T0 (mkF m 4 #[.val (.ref this), .val (.int (Int32.ofNat q_)), .val (.long x_), .second, .val (.int (Int32.ofNat kk))] [(.int (268435456 : Int32)), (.int (Int32.ofNat kk))]) _
  refine own_s_icmpYes X0.here hx 24 (hb hby own_d12_4) (Jvm.Free.XT.ii_lt_t ((own_k3 hkk).1)) (by decide) (by decide) ?_
  refine own_s_iload X0.here hx (hb hby own_d12_24) rfl ?_
  refine own_s_aloadN X0.here hx (hb hby own_d12_26) rfl rfl ?_
  obtain ⟨T72, X72, e72, st72⟩ := getF X0 hx hZ hown (host := "") (Or.inl (hw _ (List.mem_of_getElem? (i := 25) rfl))) Via.refl e0 F_this_ids (g := (mkF m 27 #[.val (.ref this), .val (.int (Int32.ofNat q_)), .val (.long x_), .second, .val (.int (Int32.ofNat kk))] [(.ref this), (.int (Int32.ofNat kk))])) rfl rfl (hb hby own_d12_27)
  refine own_by st72 ?_
  show own_Go p e below T72 (mkF m 30 #[.val (.ref this), .val (.int (Int32.ofNat q_)), .val (.long x_), .second, .val (.int (Int32.ofNat kk))] [(.ref aI), (.int (Int32.ofNat kk))]) _
  refine own_by (fun tq_ kq_ => own_len X72 hx hZ e72 A_aI (z := (Int32.ofNat nI)) rfl (g := (mkF m 30 #[.val (.ref this), .val (.int (Int32.ofNat q_)), .val (.long x_), .second, .val (.int (Int32.ofNat kk))] [(.ref aI), (.int (Int32.ofNat kk))])) rfl rfl (hb hby own_d12_30) tq_ kq_) ?_
  show own_Go p e below T72 (mkF m 31 #[.val (.ref this), .val (.int (Int32.ofNat q_)), .val (.long x_), .second, .val (.int (Int32.ofNat kk))] [(.int (Int32.ofNat nI)), (.int (Int32.ofNat kk))]) _
  refine own_s_icmpYes X72.here hx 75 (hb hby own_d12_31) (Jvm.Free.XT.ii_lt_t (((own_oflt (by omega) (by omega)).mpr (by omega)))) (by decide) (by decide) ?_
  refine own_s_aloadN X72.here hx (hb hby own_d12_75) rfl rfl ?_
  obtain ⟨T73, X73, e73, st73⟩ := getF X72 hx hZ hown (host := "") (Or.inl (hw _ (List.mem_of_getElem? (i := 25) rfl))) Via.refl e72 F_this_ids (g := (mkF m 76 #[.val (.ref this), .val (.int (Int32.ofNat q_)), .val (.long x_), .second, .val (.int (Int32.ofNat kk))] [(.ref this)])) rfl rfl (hb hby own_d12_76)
  refine own_by st73 ?_
  show own_Go p e below T73 (mkF m 79 #[.val (.ref this), .val (.int (Int32.ofNat q_)), .val (.long x_), .second, .val (.int (Int32.ofNat kk))] [(.ref aI)]) _
  refine own_s_iload X73.here hx (hb hby own_d12_79) rfl ?_
  refine own_s_lloadN X73.here hx (hb hby own_d12_81) rfl ?_
  obtain ⟨T74, h74, X74, e74, W74, fa74, st74⟩ := own_stJ X73 hx hZ e73 A_aI (k := kk) (own_ix (by omega)) (by omega) (g := (mkF m 82 #[.val (.ref this), .val (.int (Int32.ofNat q_)), .val (.long x_), .second, .val (.int (Int32.ofNat kk))] [(.long x_), (.int (Int32.ofNat kk)), (.ref aI)])) rfl rfl (hb hby own_d12_82)
  have f75 := E_this.wr W74
  have f76 := F_this_ids.other W74 (Or.inl ne_this_aI)
  have f77 := F_this_size.other W74 (Or.inl ne_this_aI)
  have f78 := F_this_table.other W74 (Or.inl ne_this_aI)
  have f79 := F_this_shift.other W74 (Or.inl ne_this_aI)
  have f80 := A_aB.other W74 (Ne.symm ne_aI_aB)
  have N74 := Fr.snoc X74 N0 ge_aI
  have SZ74 : n0 ≤ h74.size := by rw [W74.size]; exact Z0
  have K74 := K0.wr W74 (Or.inl (List.mem_of_getElem? (i := 1) rfl))
  refine own_by st74 ?_
  show own_Go p e below T74 (mkF m 83 #[.val (.ref this), .val (.int (Int32.ofNat q_)), .val (.long x_), .second, .val (.int (Int32.ofNat kk))] []) _
  refine own_s_aloadN X74.here hx (hb hby own_d12_83) rfl rfl ?_
  refine own_s_aloadN X74.here hx (hb hby own_d12_84) rfl rfl ?_
  obtain ⟨T81, X81, e81, st81⟩ := getF X74 hx hZ hown (host := "") (Or.inl (hw _ (List.mem_of_getElem? (i := 75) rfl))) Via.refl e74 f77 (g := (mkF m 85 #[.val (.ref this), .val (.int (Int32.ofNat q_)), .val (.long x_), .second, .val (.int (Int32.ofNat kk))] [(.ref this), (.ref this)])) rfl rfl (hb hby own_d12_85)
  refine own_by st81 ?_
  show own_Go p e below T81 (mkF m 88 #[.val (.ref this), .val (.int (Int32.ofNat q_)), .val (.long x_), .second, .val (.int (Int32.ofNat kk))] [(.int (Int32.ofNat kk)), (.ref this)]) _
  refine own_s_iload X81.here hx (hb hby own_d12_88) rfl ?_
  refine own_s_iconst X81.here hx (1 : Int32) (hb hby own_d12_90) rfl ?_
  refine own_s_iadd X81.here hx (hb hby own_d12_91) ?_
  obtain ⟨_, _, ⟨T82, L82, k82, n82⟩, -, X82, ⟨Lc82, hQ82, l82, y82, z82⟩, st82⟩ := Jvm.LawKit.callS X81 hx (y := (⟨"java/lang/Math", "max", "(II)I"⟩ : MethodName)) hown (mvT hZ (hw _ (List.mem_of_getElem? (i := 23) rfl))) (mvT hZ (hw _ (List.mem_of_getElem? (i := 1) rfl))) (mvT hZ (hw _ (List.mem_of_getElem? (i := 2) rfl))) (mvT hZ (hw _ (List.mem_of_getElem? (i := 3) rfl))) (by decide) (backOf (W := 1) (own_r1 l Z a0 hw [] (Int32.ofNat kk) ((Int32.ofNat kk) + (1 : Int32))  h74 n0 SZ74 ) hZ (hw _ (List.mem_of_getElem? (i := 3) rfl)) (hw _ (List.mem_of_getElem? (i := 2) rfl)) (by decide) (by decide)) (g := (mkF m 92 #[.val (.ref this), .val (.int (Int32.ofNat q_)), .val (.long x_), .second, .val (.int (Int32.ofNat kk))] [(.int ((Int32.ofNat kk) + (1 : Int32))), (.int (Int32.ofNat kk)), (.ref this)])) rfl (by rw [hml]; rfl) (argsL := [(.int (Int32.ofNat kk)), (.int ((Int32.ofNat kk) + (1 : Int32)))]) (rest := [(.ref this)]) (lenOf own_pd_0 rfl) rfl (by show 2 * 0 + _ ≤ _; exact Nat.le_of_eq rfl) (hb hby own_d12_92) (fun _ _ => ⟨rfl, e81, (by decide : 0 + 0 ≤ _), (by decide : 0 + 0 ≤ _)⟩)
  dsimp only [Pt.U, Pt.locs, Pt.cells, Pt.slots] at X82 l82 y82 z82 st82 hQ82
  subst l82 y82 z82
  obtain ⟨rfl, N82q, e82⟩ := hQ82
  have N82 := Fr.app N74 N82q
  refine own_by st82 ?_
  show own_Go p e below T82 (mkF m 95 #[.val (.ref this), .val (.int (Int32.ofNat q_)), .val (.long x_), .second, .val (.int (Int32.ofNat kk))] [(.int (own_f1 (Int32.ofNat kk) ((Int32.ofNat kk) + (1 : Int32)))), (.ref this)]) _
  rw [show (own_f1 (Int32.ofNat kk) ((Int32.ofNat kk) + (1 : Int32))) = (Int32.ofNat (kk + 1)) from own_mx hkk]
  show own_Go p e below T82 (mkF m 95 #[.val (.ref this), .val (.int (Int32.ofNat q_)), .val (.long x_), .second, .val (.int (Int32.ofNat kk))] [(.int (Int32.ofNat (kk + 1))), (.ref this)]) _
  obtain ⟨T83, h83, X83, e83, W83, st83⟩ := putF X82 hx hZ hown (host := "") (Or.inl (hw _ (List.mem_of_getElem? (i := 75) rfl))) Via.refl e82 f77 f75 (Or.inl (hw _ (List.mem_of_getElem? (i := 76) rfl))) (hw _ (List.mem_of_getElem? (i := 5) rfl)) (ty := .int) (by decide) rfl rfl (g := (mkF m 95 #[.val (.ref this), .val (.int (Int32.ofNat q_)), .val (.long x_), .second, .val (.int (Int32.ofNat kk))] [(.int (Int32.ofNat (kk + 1))), (.ref this)])) rfl rfl (hb hby own_d12_95)
  have fw83 := f77.same W83
  have f84 := f75.wr W83
  have f85 := f76.other W83 (Or.inr (slot_ne (Or.inl (hw _ (List.mem_of_getElem? (i := 26) rfl))) (Or.inl (hw _ (List.mem_of_getElem? (i := 76) rfl))) (by decide) (t := (.array .long)) (t' := .int) (by decide) (by decide)))
  have f86 := f78.other W83 (Or.inr (slot_ne (Or.inl (hw _ (List.mem_of_getElem? (i := 32) rfl))) (Or.inl (hw _ (List.mem_of_getElem? (i := 76) rfl))) (by decide) (t := (.array .int)) (t' := .int) (by decide) (by decide)))
  have f87 := f79.other W83 (Or.inr (slot_ne (Or.inl (hw _ (List.mem_of_getElem? (i := 49) rfl))) (Or.inl (hw _ (List.mem_of_getElem? (i := 76) rfl))) (by decide) (t := .int) (t' := .int) (by decide) (by decide)))
  have f88 := fa74.other W83 (Ne.symm ne_this_aI)
  have f89 := f80.other W83 (Ne.symm ne_this_aB)
  have N83 := Fr.snoc X83 N82 ge_this
  have SZ83 : n0 ≤ h83.size := by rw [W83.size]; exact SZ74
  have K83 := K74.wr W83 (Or.inl (List.mem_of_getElem? (i := 0) rfl))
  refine own_by st83 ?_
  show own_Go p e below T83 (mkF m 98 #[.val (.ref this), .val (.int (Int32.ofNat q_)), .val (.long x_), .second, .val (.int (Int32.ofNat kk))] []) _
  refine own_by (fun tq_ kq_ => X83.ldc2Long hx hown (mvT hZ (hw _ (List.mem_of_getElem? (i := 33) rfl))) (g := (mkF m 98 #[.val (.ref this), .val (.int (Int32.ofNat q_)), .val (.long x_), .second, .val (.int (Int32.ofNat kk))] [])) rfl (hb hby own_d12_98) tq_ kq_) ?_
  show own_Go p e below T83 (mkF m 101 #[.val (.ref this), .val (.int (Int32.ofNat q_)), .val (.long x_), .second, .val (.int (Int32.ofNat kk))] [(.long (2 : Int64))]) _
  refine own_s_aloadN X83.here hx (hb hby own_d12_101) rfl rfl ?_
  obtain ⟨T90, X90, e90, st90⟩ := getF X83 hx hZ hown (host := "") (Or.inl (hw _ (List.mem_of_getElem? (i := 75) rfl))) Via.refl e83 fw83 (g := (mkF m 102 #[.val (.ref this), .val (.int (Int32.ofNat q_)), .val (.long x_), .second, .val (.int (Int32.ofNat kk))] [(.ref this), (.long (2 : Int64))])) rfl rfl (hb hby own_d12_102)
  refine own_by st90 ?_
  show own_Go p e below T90 (mkF m 105 #[.val (.ref this), .val (.int (Int32.ofNat q_)), .val (.long x_), .second, .val (.int (Int32.ofNat kk))] [(.int (Int32.ofNat (kk + 1))), (.long (2 : Int64))]) _
  refine own_s_i2l X90.here hx (hb hby own_d12_105) ?_
  refine own_s_lmul X90.here hx (hb hby own_d12_106) ?_
  refine own_s_aloadN X90.here hx (hb hby own_d12_107) rfl rfl ?_
  obtain ⟨T91, X91, e91, st91⟩ := getF X90 hx hZ hown (host := "") (Or.inl (hw _ (List.mem_of_getElem? (i := 31) rfl))) Via.refl e90 f86 (g := (mkF m 108 #[.val (.ref this), .val (.int (Int32.ofNat q_)), .val (.long x_), .second, .val (.int (Int32.ofNat kk))] [(.ref this), (.long ((2 : Int64) * ((Int32.ofNat (kk + 1)).toInt64)))])) rfl rfl (hb hby own_d12_108)
  refine own_by st91 ?_
  show own_Go p e below T91 (mkF m 111 #[.val (.ref this), .val (.int (Int32.ofNat q_)), .val (.long x_), .second, .val (.int (Int32.ofNat kk))] [(.ref aB), (.long ((2 : Int64) * ((Int32.ofNat (kk + 1)).toInt64)))]) _
  refine own_by (fun tq_ kq_ => own_len X91 hx hZ e91 f89 (z := (Int32.ofNat (2 ^ bb))) rfl (g := (mkF m 111 #[.val (.ref this), .val (.int (Int32.ofNat q_)), .val (.long x_), .second, .val (.int (Int32.ofNat kk))] [(.ref aB), (.long ((2 : Int64) * ((Int32.ofNat (kk + 1)).toInt64)))])) rfl rfl (hb hby own_d12_111) tq_ kq_) ?_
  show own_Go p e below T91 (mkF m 112 #[.val (.ref this), .val (.int (Int32.ofNat q_)), .val (.long x_), .second, .val (.int (Int32.ofNat kk))] [(.int (Int32.ofNat (2 ^ bb))), (.long ((2 : Int64) * ((Int32.ofNat (kk + 1)).toInt64)))]) _
  refine own_s_i2l X91.here hx (hb hby own_d12_112) ?_
  refine own_s_lcmp X91.here hx (hb hby own_d12_113) ?_
  show own_Go p e below T91 (mkF m 114 #[.val (.ref this), .val (.int (Int32.ofNat q_)), .val (.long x_), .second, .val (.int (Int32.ofNat kk))] [(.int (Jvm.Free.XT.cmpL ((2 : Int64) * ((Int32.ofNat (kk + 1)).toInt64)) ((Int32.ofNat (2 ^ bb)).toInt64)))]) _
  refine own_s_ifYes X91.here hx 142 (hb hby own_d12_114) (Jvm.Free.XT.ll_le_t ((own_le6 hB hkk))) (by decide) (by decide) ?_
  refine own_s_aloadN X91.here hx (hb hby own_d12_142) rfl rfl ?_
  obtain ⟨T92, X92, e92, st92⟩ := getF X91 hx hZ hown (host := "") (Or.inl (hw _ (List.mem_of_getElem? (i := 31) rfl))) Via.refl e91 f86 (g := (mkF m 143 #[.val (.ref this), .val (.int (Int32.ofNat q_)), .val (.long x_), .second, .val (.int (Int32.ofNat kk))] [(.ref this)])) rfl rfl (hb hby own_d12_143)
  refine own_by st92 ?_
  show own_Go p e below T92 (mkF m 146 #[.val (.ref this), .val (.int (Int32.ofNat q_)), .val (.long x_), .second, .val (.int (Int32.ofNat kk))] [(.ref aB)]) _
  refine own_s_iloadN X92.here hx (hb hby own_d12_146) rfl ?_
  refine own_s_iload X92.here hx (hb hby own_d12_147) rfl ?_
  obtain ⟨T93, h93, X93, e93, W93, fa93, st93⟩ := own_stI X92 hx hZ e92 f89 (k := q_) (own_ix (by omega)) hq (g := (mkF m 149 #[.val (.ref this), .val (.int (Int32.ofNat q_)), .val (.long x_), .second, .val (.int (Int32.ofNat kk))] [(.int (Int32.ofNat kk)), (.int (Int32.ofNat q_)), (.ref aB)])) rfl rfl (hb hby own_d12_149)
  have f94 := f84.wr W93
  have f95 := f85.other W93 (Or.inl ne_this_aB)
  have f96 := fw83.other W93 (Or.inl ne_this_aB)
  have f97 := f86.other W93 (Or.inl ne_this_aB)
  have f98 := f87.other W93 (Or.inl ne_this_aB)
  have f99 := f88.other W93 ne_aI_aB
  have N93 := Fr.snoc X93 N83 ge_aB
  have SZ93 : n0 ≤ h93.size := by rw [W93.size]; exact SZ83
  have K93 := K83.wr W93 (Or.inl (List.mem_of_getElem? (i := 2) rfl))
  refine own_by st93 ?_
  show own_Go p e below T93 (mkF m 150 #[.val (.ref this), .val (.int (Int32.ofNat q_)), .val (.long x_), .second, .val (.int (Int32.ofNat kk))] []) _
  refine own_retV X93 hx hret hlk (hb hby own_d12_150) (by decide) (by decide) ?_
  rw [e93]
  exact ⟨rfl, N93, K93, f95, f96, f97, f98, f99.cong rfl (fun i _ => own_updJ fi kk x_ i), fa93.cong rfl (fun i _ => own_updI tb q_ (Int32.ofNat kk) i)⟩
theorem own_d9_0 : decode prog_15_method_5_code 0 = .ok (.aload_n 0, 1) := by decide +kernel
theorem own_d9_1 : decode prog_15_method_5_code 1 = .ok (.lload_n 1, 1) := by decide +kernel
theorem own_d9_2 : decode prog_15_method_5_code 2 = .ok (.invokevirtual 35, 3) := by decide +kernel
theorem own_d9_5 : decode prog_15_method_5_code 5 = .ok (.istore_n 3, 1) := by decide +kernel
theorem own_d9_6 : decode prog_15_method_5_code 6 = .ok (.aload_n 0, 1) := by decide +kernel
theorem own_d9_7 : decode prog_15_method_5_code 7 = .ok (.getfield 31, 3) := by decide +kernel
theorem own_d9_10 : decode prog_15_method_5_code 10 = .ok (.iload_n 3, 1) := by decide +kernel
theorem own_d9_11 : decode prog_15_method_5_code 11 = .ok (.iaload, 1) := by decide +kernel
theorem own_d9_12 : decode prog_15_method_5_code 12 = .ok (.iconst (-1), 1) := by decide +kernel
theorem own_d9_13 : decode prog_15_method_5_code 13 = .ok (.if_icmp .eq 10, 3) := by decide +kernel
theorem own_d9_16 : decode prog_15_method_5_code 16 = .ok (.aload_n 0, 1) := by decide +kernel
theorem own_d9_17 : decode prog_15_method_5_code 17 = .ok (.getfield 31, 3) := by decide +kernel
theorem own_d9_20 : decode prog_15_method_5_code 20 = .ok (.iload_n 3, 1) := by decide +kernel
theorem own_d9_21 : decode prog_15_method_5_code 21 = .ok (.iaload, 1) := by decide +kernel
theorem own_d9_22 : decode prog_15_method_5_code 22 = .ok (.ireturn, 1) := by decide +kernel
theorem own_d9_23 : decode prog_15_method_5_code 23 = .ok (.aload_n 0, 1) := by decide +kernel
theorem own_d9_24 : decode prog_15_method_5_code 24 = .ok (.getfield 27, 3) := by decide +kernel
theorem own_d9_27 : decode prog_15_method_5_code 27 = .ok (.istore 4, 2) := by decide +kernel
theorem own_d9_29 : decode prog_15_method_5_code 29 = .ok (.aload_n 0, 1) := by decide +kernel
theorem own_d9_30 : decode prog_15_method_5_code 30 = .ok (.iload_n 3, 1) := by decide +kernel
theorem own_d9_31 : decode prog_15_method_5_code 31 = .ok (.lload_n 1, 1) := by decide +kernel
theorem own_d9_32 : decode prog_15_method_5_code 32 = .ok (.iload 4, 2) := by decide +kernel
theorem own_d9_34 : decode prog_15_method_5_code 34 = .ok (.invokevirtual 39, 3) := by decide +kernel
theorem own_d9_37 : decode prog_15_method_5_code 37 = .ok (.iload 4, 2) := by decide +kernel
theorem own_d9_39 : decode prog_15_method_5_code 39 = .ok (.ireturn, 1) := by decide +kernel
theorem own_ef9 (m : MethodId) (this : Addr) (x_ : Int64) : entryFrame m #[(.ref this), (.long x_)] 5 = mkF m 0 #[.val (.ref this), .val (.long x_), .second, .unset, .unset] [] := by first | (simp [entryFrame, mkF, argsToLocals, Value.category]; done) | rfl
theorem own_pd_8 : parseMethodDescriptor "(IJI)V" = some ⟨[.int, .long, .int], none⟩ := by decide +kernel
def own_q_own_r9 (Z : State) (this : Addr) (x_ : Int64) (aI aB : Addr) (bb nI : Nat) (tb : Nat → Int32) (fi : Nat → Int64) (kk : Nat) (ax : Int64) (h0 : Heap) (n0 : Nat) (v : Option Value) (h : Heap) (L : List Loc) : Prop := ∃ (tb' : Nat → Int32) (fi' : Nat → Int64), v = some (.int (Int32.ofNat kk)) ∧ Fr n0 L ∧ Keep h0 h [this, aI, aB] ∧ Fld Z h this "com/example/geodesic/geodesic/graph/IdIndex" "ids" "[J" (.ref aI) ∧ Fld Z h this "com/example/geodesic/geodesic/graph/IdIndex" "size" "I" (.int (Int32.ofNat (kk + 1))) ∧ Fld Z h this "com/example/geodesic/geodesic/graph/IdIndex" "table" "[I" (.ref aB) ∧ Fld Z h this "com/example/geodesic/geodesic/graph/IdIndex" "shift" "I" (.int ((64 : Int32) - (Int32.ofNat bb))) ∧ own_Av Z h aI .long nI (fun i => .long (fi' i)) ∧ own_Av Z h aB .int (2 ^ bb) (fun i => .int (tb' i)) ∧ own_T bb (kk + 1) tb' fi' ax
set_option maxRecDepth 65536 in
set_option maxHeartbeats 40000000 in
theorem own_r9 (l : Launch) (Z : State) (a0 : Array Value) (hw : ∀ d ∈ tables_1, d.before a0 Z = true) (ws : List Jvm.Cond) (this : Addr) (x_ : Int64) (aI aB : Addr) (bb nI : Nat) (tb : Nat → Int32) (fi : Nat → Int64) (kk : Nat) (ax : Int64) (h0 : Heap) (n0 : Nat) (Z0 : n0 ≤ h0.size) (hB : 5 ≤ bb ∧ bb ≤ 12) (hkk : kk ≤ 2) (hnI : 16 ≤ nI ∧ nI ≤ 2047) (hax : x_ = ax + Int64.ofNat kk) (hT : own_T bb kk tb fi ax) (E_this : Exa Z h0 this "com/example/geodesic/geodesic/graph/IdIndex") (F_this_ids : Fld Z h0 this "com/example/geodesic/geodesic/graph/IdIndex" "ids" "[J" (.ref aI)) (F_this_size : Fld Z h0 this "com/example/geodesic/geodesic/graph/IdIndex" "size" "I" (.int (Int32.ofNat kk))) (F_this_table : Fld Z h0 this "com/example/geodesic/geodesic/graph/IdIndex" "table" "[I" (.ref aB)) (F_this_shift : Fld Z h0 this "com/example/geodesic/geodesic/graph/IdIndex" "shift" "I" (.int ((64 : Int32) - (Int32.ofNat bb)))) (ge_this : n0 ≤ this) (A_aI : own_Av Z h0 aI .long nI (fun i => .long (fi i))) (ge_aI : n0 ≤ aI) (A_aB : own_Av Z h0 aB .int (2 ^ bb) (fun i => .int (tb i))) (ge_aB : n0 ≤ aB) (ne_this_aI : this ≠ aI) (ne_this_aB : this ≠ aB) (ne_aI_aB : aI ≠ aB) :
    MetFree l (⟨"com/example/geodesic/geodesic/graph/IdIndex", "add", "(J)I"⟩ : MethodName) (head1 (Jvm.Cond.code (⟨"com/example/geodesic/geodesic/graph/IdIndex", "add", "(J)I"⟩ : MethodName) prog_15_method_5_code 5 (some .int) :: ws) ({ frames := 2, cells := 0, slots := 0, locals := 30 } : Room)) (fun aq Uq => aq = #[(.ref this), (.long x_)] ∧ Z.Warmed39 Uq.vm ∧ Uq.heap = h0) (fun _ _ _ _ _ => True) (fun _ Uq oq Uq' => ∃ vq Lq, oq = .returned vq ∧ own_q_own_r9 Z this x_ aI aB bb nI tb fi kk ax h0 n0 vq Uq'.heap Lq ∧ FrameEnd Uq oq Uq' Lq ({ frames := 2, cells := 0, slots := 0, locals := 30 } : Room).cells ({ frames := 2, cells := 0, slots := 0, locals := 30 } : Room).slots) := by
  refine MetFree.of_bodySF (plainFor_of_name own_pn_IdIndex) hisR ?_
  intro p e s m args below meth c T0 Bd hml0 hP hK
  obtain ⟨rfl, hZ, hh⟩ := hP
  have hx := Bd.exec
  have hby := Bd.bytes
  have hml : c.maxLocals = 5 := hml0
  have hown : s.vm.findClass "com/example/geodesic/geodesic/graph/IdIndex" = some m.cls := findClass_of_methodNamed Bd.named
  have hnm := (name_of_methodNamed Bd.named Bd.method).1
  have hret : meth.sig.returnType = (some .int) := Bd.returns
  have hlk : meth.locks = false := BodyLoose.notSynchronized Bd
  have X0 : Stand p l e ({ frames := 2, cells := 0, slots := 0, locals := 30 } : Room) s m #[(.ref this), (.long x_)] below meth c T0 [] 0 0 := Stand.of_body Bd
  have e0 : T0.heap = h0 := by rw [← hh, Bd.state]; rfl
  have N0 := Fr.nil n0
  refine own_start (own_ef9 m this x_) (Q := fun (v : Option Value) (h : Heap) (L : List Loc) => ∃ (tb' : Nat → Int32) (fi' : Nat → Int64), v = some (.int (Int32.ofNat kk)) ∧ Fr n0 L ∧ Keep h0 h [this, aI, aB] ∧ Fld Z h this "com/example/geodesic/geodesic/graph/IdIndex" "ids" "[J" (.ref aI) ∧ Fld Z h this "com/example/geodesic/geodesic/graph/IdIndex" "size" "I" (.int (Int32.ofNat (kk + 1))) ∧ Fld Z h this "com/example/geodesic/geodesic/graph/IdIndex" "table" "[I" (.ref aB) ∧ Fld Z h this "com/example/geodesic/geodesic/graph/IdIndex" "shift" "I" (.int ((64 : Int32) - (Int32.ofNat bb))) ∧ own_Av Z h aI .long nI (fun i => .long (fi' i)) ∧ own_Av Z h aB .int (2 ^ bb) (fun i => .int (tb' i)) ∧ own_T bb (kk + 1) tb' fi' ax) (k := 0) (j := 0) ?_
  show own_Go p e below T0 (mkF m 0 #[.val (.ref this), .val (.long x_), .second, .unset, .unset] []) _
  have K0 := Keep.refl h0 [this, aI, aB]
  have hpw := own_pw hB
  refine own_s_aloadN X0.here hx (hb hby own_d9_0) rfl rfl ?_
  refine own_s_lloadN X0.here hx (hb hby own_d9_1) rfl ?_
  obtain ⟨cq100, q100, q100'⟩ := E_this.cell
  obtain ⟨_, _, ⟨T100, L100, k100, n100⟩, -, X100, ⟨Lc100, hQ100, l100, y100, z100⟩, st100⟩ := X0.privateBack hx (y := (⟨"com/example/geodesic/geodesic/graph/IdIndex", "probe", "(J)I"⟩ : MethodName)) hown (mvT hZ (hw _ (List.mem_of_getElem? (i := 66) rfl))) (mvT hZ (hw _ (List.mem_of_getElem? (i := 67) rfl))) (own_selP (y := (⟨"com/example/geodesic/geodesic/graph/IdIndex", "probe", "(J)I"⟩ : MethodName)) hZ (hw _ (List.mem_of_getElem? (i := 5) rfl)) (hw _ (List.mem_of_getElem? (i := 68) rfl)) (hw _ (List.mem_of_getElem? (i := 67) rfl)) (by decide)) (Cond.privateMethod_at (mvP hZ (hw _ (List.mem_of_getElem? (i := 68) rfl)) (args := #[]))) (mvT hZ (hw _ (List.mem_of_getElem? (i := 69) rfl))) (by decide) (backOf (W := 0) (own_r10 l Z a0 hw [] this x_ aI aB bb nI tb fi h0 n0 Z0 hB (own_TP1 hkk hnI.1 hax hT) (own_TP2 hB hkk hT) E_this F_this_ids F_this_table F_this_shift A_aI A_aB) hZ (hw _ (List.mem_of_getElem? (i := 69) rfl)) (hw _ (List.mem_of_getElem? (i := 6) rfl)) (by decide) (by decide)) (g := (mkF m 2 #[.val (.ref this), .val (.long x_), .second, .unset, .unset] [(.long x_), (.ref this)])) rfl (by rw [hml]; rfl) (Steps.refl _) (a := this) (by rw [e0]; exact q100) q100' (argsL := [(.long x_)]) (rest := []) (lenOf own_pd_4 rfl) rfl (by show 2 * 0 + _ ≤ _; exact Nat.le_of_eq rfl) (hb hby own_d9_2) (fun _ _ => ⟨rfl, e0, (by decide : 0 + 0 ≤ _), (by decide : 0 + 0 ≤ _)⟩)
  dsimp only [Pt.U, Pt.locs, Pt.cells, Pt.slots] at X100 l100 y100 z100 st100 hQ100
  subst l100 y100 z100
  obtain ⟨q100, rfl, N100q, e100, lq100, em100⟩ := hQ100
  have N100 := Fr.app N0 N100q
  refine own_by (fun t k => st100.trans k) ?_
  show own_Go p e below T100 (mkF m 5 #[.val (.ref this), .val (.long x_), .second, .unset, .unset] [(.int (Int32.ofNat q100))]) _
  refine own_s_istoreN X100.here hx #[.val (.ref this), .val (.long x_), .second, .val (.int (Int32.ofNat q100)), .unset] (hb hby own_d9_5) rfl ?_
  refine own_s_aloadN X100.here hx (hb hby own_d9_6) rfl rfl ?_
  obtain ⟨T101, X101, e101, st101⟩ := getF X100 hx hZ hown (host := "") (Or.inl (hw _ (List.mem_of_getElem? (i := 31) rfl))) Via.refl e100 F_this_table (g := (mkF m 7 #[.val (.ref this), .val (.long x_), .second, .val (.int (Int32.ofNat q100)), .unset] [(.ref this)])) rfl rfl (hb hby own_d9_7)
  refine own_by st101 ?_
  show own_Go p e below T101 (mkF m 10 #[.val (.ref this), .val (.long x_), .second, .val (.int (Int32.ofNat q100)), .unset] [(.ref aB)]) _
  refine own_s_iloadN X101.here hx (hb hby own_d9_10) rfl ?_
  refine own_by (fun tq_ kq_ => own_ldI X101 hx hZ e101 A_aB (k := q100) (v := (.int (tb q100))) (own_ix (by omega)) lq100 rfl (g := (mkF m 11 #[.val (.ref this), .val (.long x_), .second, .val (.int (Int32.ofNat q100)), .unset] [(.int (Int32.ofNat q100)), (.ref aB)])) rfl rfl (hb hby own_d9_11) tq_ kq_) ?_
  show own_Go p e below T101 (mkF m 12 #[.val (.ref this), .val (.long x_), .second, .val (.int (Int32.ofNat q100)), .unset] [(.int (tb q100))]) _
  refine own_s_iconst X101.here hx (-1 : Int32) (hb hby own_d9_12) rfl ?_
  show own_Go p e below T101 (mkF m 13 #[.val (.ref this), .val (.long x_), .second, .val (.int (Int32.ofNat q100)), .unset] [(.int (-1 : Int32)), (.int (tb q100))]) _
  refine own_s_icmpYes X101.here hx 23 (hb hby own_d9_13) (Jvm.Free.XT.ii_eq_t em100) (by decide) (by decide) ?_
  refine own_s_aloadN X101.here hx (hb hby own_d9_23) rfl rfl ?_
  obtain ⟨T102, X102, e102, st102⟩ := getF X101 hx hZ hown (host := "") (Or.inl (hw _ (List.mem_of_getElem? (i := 75) rfl))) Via.refl e101 F_this_size (g := (mkF m 24 #[.val (.ref this), .val (.long x_), .second, .val (.int (Int32.ofNat q100)), .unset] [(.ref this)])) rfl rfl (hb hby own_d9_24)
  refine own_by st102 ?_
  show own_Go p e below T102 (mkF m 27 #[.val (.ref this), .val (.long x_), .second, .val (.int (Int32.ofNat q100)), .unset] [(.int (Int32.ofNat kk))]) _
  refine own_s_istore X102.here hx #[.val (.ref this), .val (.long x_), .second, .val (.int (Int32.ofNat q100)), .val (.int (Int32.ofNat kk))] (hb hby own_d9_27) rfl ?_
  refine own_s_aloadN X102.here hx (hb hby own_d9_29) rfl rfl ?_
  refine own_s_iloadN X102.here hx (hb hby own_d9_30) rfl ?_
  refine own_s_lloadN X102.here hx (hb hby own_d9_31) rfl ?_
  refine own_s_iload X102.here hx (hb hby own_d9_32) rfl ?_
  obtain ⟨cq103, q103, q103'⟩ := E_this.cell
  obtain ⟨_, _, ⟨T103, L103, k103, n103⟩, -, X103, ⟨Lc103, hQ103, l103, y103, z103⟩, st103⟩ := X102.privateBack hx (y := (⟨"com/example/geodesic/geodesic/graph/IdIndex", "insert", "(IJI)V"⟩ : MethodName)) hown (mvT hZ (hw _ (List.mem_of_getElem? (i := 77) rfl))) (mvT hZ (hw _ (List.mem_of_getElem? (i := 78) rfl))) (own_selP (y := (⟨"com/example/geodesic/geodesic/graph/IdIndex", "insert", "(IJI)V"⟩ : MethodName)) hZ (hw _ (List.mem_of_getElem? (i := 5) rfl)) (hw _ (List.mem_of_getElem? (i := 79) rfl)) (hw _ (List.mem_of_getElem? (i := 78) rfl)) (by decide)) (Cond.privateMethod_at (mvP hZ (hw _ (List.mem_of_getElem? (i := 79) rfl)) (args := #[]))) (mvT hZ (hw _ (List.mem_of_getElem? (i := 80) rfl))) (by decide) (backOf (W := 0) (own_r12 l Z a0 hw [] this (Int32.ofNat q100) x_ (Int32.ofNat kk) aI aB bb nI tb fi q100 kk h0 n0 Z0 hB rfl rfl hkk hnI lq100 E_this F_this_ids F_this_size F_this_table F_this_shift ge_this A_aI ge_aI A_aB ge_aB ne_this_aI ne_this_aB ne_aI_aB) hZ (hw _ (List.mem_of_getElem? (i := 80) rfl)) (hw _ (List.mem_of_getElem? (i := 6) rfl)) (by decide) (by decide)) (g := (mkF m 34 #[.val (.ref this), .val (.long x_), .second, .val (.int (Int32.ofNat q100)), .val (.int (Int32.ofNat kk))] [(.int (Int32.ofNat kk)), (.long x_), (.int (Int32.ofNat q100)), (.ref this)])) rfl (by rw [hml]; rfl) (Steps.refl _) (a := this) (by rw [e102]; exact q103) q103' (argsL := [(.int (Int32.ofNat q100)), (.long x_), (.int (Int32.ofNat kk))]) (rest := []) (lenOf own_pd_8 rfl) rfl (by show 2 * 0 + _ ≤ _; exact Nat.le_of_eq rfl) (hb hby own_d9_34) (fun _ _ => ⟨rfl, e102, (by decide : 0 + 0 ≤ _), (by decide : 0 + 0 ≤ _)⟩)
  dsimp only [Pt.U, Pt.locs, Pt.cells, Pt.slots] at X103 l103 y103 z103 st103 hQ103
  subst l103 y103 z103
  obtain ⟨rfl, N103q, K103, fids103, fsize103, ftable103, fshift103, fI103, fB103⟩ := hQ103
  have N103 := Fr.app N100 N103q
  have f104 := E_this.keep K103
  have SZ103 : n0 ≤ T103.heap.size := Nat.le_trans Z0 K103.1
  have KC103 := K0.trans K103 (allS (Or.inl (List.mem_of_getElem? (i := 0) rfl)) (allS (Or.inl (List.mem_of_getElem? (i := 1) rfl)) (allS (Or.inl (List.mem_of_getElem? (i := 2) rfl)) all0)))
  refine own_by (fun t k => st103.trans k) ?_
  show own_Go p e below T103 (mkF m 37 #[.val (.ref this), .val (.long x_), .second, .val (.int (Int32.ofNat q100)), .val (.int (Int32.ofNat kk))] []) _
  refine own_s_iload X103.here hx (hb hby own_d9_37) rfl ?_
  refine own_retI X103 hx hret hlk (hb hby own_d9_39) (by decide) (by decide) ?_
  exact ⟨_, _, rfl, N103, KC103, fids103, fsize103, ftable103, fshift103, fI103, fB103, own_TS hax hT⟩
theorem own_mn {kk n : Nat} (h : kk ≤ 3) (hn : 16 ≤ n ∧ n ≤ 2047) : own_f15 (Int32.ofNat n) (Int32.ofNat kk) = Int32.ofNat kk := by
  unfold own_f15
  first
  | rw [if_pos ((own_oflt (by omega) (by omega)).mpr (by omega))]
  | rw [if_neg (fun q => absurd ((own_oflt (by omega) (by omega)).mp q) (by omega))]
theorem own_d14_0 : decode jdk_65_method_124_code 0 = .ok (.iload_n 1, 1) := by decide +kernel
theorem own_d14_1 : decode jdk_65_method_124_code 1 = .ok (.aload_n 0, 1) := by decide +kernel
theorem own_d14_2 : decode jdk_65_method_124_code 2 = .ok (.arraylength, 1) := by decide +kernel
theorem own_d14_3 : decode jdk_65_method_124_code 3 = .ok (.if_icmp .ne 11, 3) := by decide +kernel
theorem own_d14_6 : decode jdk_65_method_124_code 6 = .ok (.aload_n 0, 1) := by decide +kernel
theorem own_d14_7 : decode jdk_65_method_124_code 7 = .ok (.invokevirtual 319, 3) := by decide +kernel
theorem own_d14_10 : decode jdk_65_method_124_code 10 = .ok (.checkcast 320, 3) := by decide +kernel
theorem own_d14_13 : decode jdk_65_method_124_code 13 = .ok (.areturn, 1) := by decide +kernel
theorem own_d14_14 : decode jdk_65_method_124_code 14 = .ok (.iload_n 1, 1) := by decide +kernel
theorem own_d14_15 : decode jdk_65_method_124_code 15 = .ok (.newarray .long, 2) := by decide +kernel
theorem own_d14_17 : decode jdk_65_method_124_code 17 = .ok (.astore_n 2, 1) := by decide +kernel
theorem own_d14_18 : decode jdk_65_method_124_code 18 = .ok (.aload_n 0, 1) := by decide +kernel
theorem own_d14_19 : decode jdk_65_method_124_code 19 = .ok (.iconst 0, 1) := by decide +kernel
theorem own_d14_20 : decode jdk_65_method_124_code 20 = .ok (.aload_n 2, 1) := by decide +kernel
theorem own_d14_21 : decode jdk_65_method_124_code 21 = .ok (.iconst 0, 1) := by decide +kernel
theorem own_d14_22 : decode jdk_65_method_124_code 22 = .ok (.aload_n 0, 1) := by decide +kernel
theorem own_d14_23 : decode jdk_65_method_124_code 23 = .ok (.arraylength, 1) := by decide +kernel
theorem own_d14_24 : decode jdk_65_method_124_code 24 = .ok (.iload_n 1, 1) := by decide +kernel
theorem own_d14_25 : decode jdk_65_method_124_code 25 = .ok (.invokestatic 304, 3) := by decide +kernel
theorem own_d14_28 : decode jdk_65_method_124_code 28 = .ok (.invokestatic 150, 3) := by decide +kernel
theorem own_d14_31 : decode jdk_65_method_124_code 31 = .ok (.aload_n 2, 1) := by decide +kernel
theorem own_d14_32 : decode jdk_65_method_124_code 32 = .ok (.areturn, 1) := by decide +kernel
theorem own_ef14 (m : MethodId) (a_ : Addr) (z_ : Int32) : entryFrame m #[(.ref a_), (.int z_)] 3 = mkF m 0 #[.val (.ref a_), .val (.int z_), .unset] [] := by first | (simp [entryFrame, mkF, argsToLocals, Value.category]; done) | rfl
def own_q_own_r14 (Z : State) (a_ : Addr) (z_ : Int32) (nI kk : Nat) (fi : Nat → Int64) (h0 : Heap) (n0 : Nat) (v : Option Value) (h : Heap) (L : List Loc) : Prop := ∃ (bq : Addr) (fq : Nat → Value), v = some (.ref bq) ∧ Fr n0 L ∧ n0 ≤ bq ∧ h0.size ≤ bq ∧ Keep h0 h [] ∧ own_Av Z h bq .long kk fq
set_option maxRecDepth 65536 in
set_option maxHeartbeats 40000000 in
theorem own_r14 (l : Launch) (Z : State) (a0 : Array Value) (hw : ∀ d ∈ tables_1, d.before a0 Z = true) (ws : List Jvm.Cond) (a_ : Addr) (z_ : Int32) (nI kk : Nat) (fi : Nat → Int64) (h0 : Heap) (n0 : Nat) (Z0 : n0 ≤ h0.size) (hz : z_ = Int32.ofNat kk) (hkk : kk ≤ 3) (hnI : 16 ≤ nI ∧ nI ≤ 2047) (A_a_ : own_Av Z h0 a_ .long nI (fun i => .long (fi i))) :
    MetFree l (⟨"java/util/Arrays", "copyOf", "([JI)[J"⟩ : MethodName) (head1 (Jvm.Cond.code (⟨"java/util/Arrays", "copyOf", "([JI)[J"⟩ : MethodName) jdk_65_method_124_code 3 (some (.array .long)) :: ws) ({ frames := 1, cells := 1, slots := 3, locals := 18 } : Room)) (fun aq Uq => aq = #[(.ref a_), (.int z_)] ∧ Z.Warmed39 Uq.vm ∧ Uq.heap = h0) (fun _ _ _ _ _ => True) (fun _ Uq oq Uq' => ∃ vq Lq, oq = .returned vq ∧ own_q_own_r14 Z a_ z_ nI kk fi h0 n0 vq Uq'.heap Lq ∧ FrameEnd Uq oq Uq' Lq ({ frames := 1, cells := 1, slots := 3, locals := 18 } : Room).cells ({ frames := 1, cells := 1, slots := 3, locals := 18 } : Room).slots) := by
  refine MetFree.of_bodySF (plainFor_of_name own_pn_Arrays) hisR ?_
  intro p e s m args below meth c T0 Bd hml0 hP hK
  obtain ⟨rfl, hZ, hh⟩ := hP
  have hx := Bd.exec
  have hby := Bd.bytes
  have hml : c.maxLocals = 3 := hml0
  have hown : s.vm.findClass "java/util/Arrays" = some m.cls := findClass_of_methodNamed Bd.named
  have hnm := (name_of_methodNamed Bd.named Bd.method).1
  have hret : meth.sig.returnType = (some (.array .long)) := Bd.returns
  have hlk : meth.locks = false := BodyLoose.notSynchronized Bd
  have X0 : Stand p l e ({ frames := 1, cells := 1, slots := 3, locals := 18 } : Room) s m #[(.ref a_), (.int z_)] below meth c T0 [] 0 0 := Stand.of_body Bd
  have e0 : T0.heap = h0 := by rw [← hh, Bd.state]; rfl
  have N0 := Fr.nil n0
  refine own_start (own_ef14 m a_ z_) (Q := fun (v : Option Value) (h : Heap) (L : List Loc) => ∃ (bq : Addr) (fq : Nat → Value), v = some (.ref bq) ∧ Fr n0 L ∧ n0 ≤ bq ∧ h0.size ≤ bq ∧ Keep h0 h [] ∧ own_Av Z h bq .long kk fq) (k := 1) (j := 3) ?_
  show own_Go p e below T0 (mkF m 0 #[.val (.ref a_), .val (.int z_), .unset] []) _
  subst hz
  have K0 := Keep.refl h0 []
  show own_Go p e below T0 (mkF m 0 #[.val (.ref a_), .val (.int (Int32.ofNat kk)), .unset] []) _
  refine own_s_iloadN X0.here hx (hb hby own_d14_0) rfl ?_
  refine own_s_aloadN X0.here hx (hb hby own_d14_1) rfl rfl ?_
  refine own_by (fun tq_ kq_ => own_len X0 hx hZ e0 A_a_ (z := (Int32.ofNat nI)) rfl (g := (mkF m 2 #[.val (.ref a_), .val (.int (Int32.ofNat kk)), .unset] [(.ref a_), (.int (Int32.ofNat kk))])) rfl rfl (hb hby own_d14_2) tq_ kq_) ?_
  show own_Go p e below T0 (mkF m 3 #[.val (.ref a_), .val (.int (Int32.ofNat kk)), .unset] [(.int (Int32.ofNat nI)), (.int (Int32.ofNat kk))]) _
  refine own_s_icmpYes X0.here hx 14 (hb hby own_d14_3) (Jvm.Free.XT.ii_ne_t ((fun q => absurd ((own_ofeq (by omega) (by omega)).mp q) (by omega)))) (by decide) (by decide) ?_
  refine own_s_iloadN X0.here hx (hb hby own_d14_14) rfl ?_
  obtain ⟨T105, h105, k105, X105, e105, E105, A105, st105⟩ := newP X0 hx hZ (hw _ (List.mem_of_getElem? (i := 24) rfl)) e0 (g := (mkF m 15 #[.val (.ref a_), .val (.int (Int32.ofNat kk)), .unset] [(.int (Int32.ofNat kk))])) rfl (hb hby own_d14_15) rfl ((own_ix (by omega)).1) (cap := 3) (by rw [(own_ix (by omega)).2]; exact hkk) (by decide) (by decide) (by decide)
  obtain ⟨b105, g105⟩ : ∃ z, z = h0.size := ⟨_, rfl⟩
  rw [← g105] at A105 st105
  have ge_b105 : n0 ≤ b105 := Nat.le_trans Z0 (Nat.le_of_eq g105.symm)
  have sz_b105 : h0.size ≤ b105 := Nat.le_trans K0.1 (Nat.le_of_eq g105.symm)
  have ne_a__b105 : a_ ≠ b105 := Nat.ne_of_lt (Nat.lt_of_lt_of_le A_a_.lt (Nat.le_of_eq g105.symm))
  have f106 := A_a_.ext E105
  have SZ105 : n0 ≤ h105.size := Nat.le_trans Z0 E105.1
  have K105 := K0.ext E105
  have f107 : own_Av Z h105 b105 .long kk (fun _ => (.long (0 : Int64))) := own_Av.ofnew A105 ((own_ix (by omega)).2) rfl
  refine own_by st105 ?_
  show own_Go p e below T105 (mkF m 17 #[.val (.ref a_), .val (.int (Int32.ofNat kk)), .unset] [(.ref b105)]) _
  refine own_s_astoreN X105.here hx #[.val (.ref a_), .val (.int (Int32.ofNat kk)), .val (.ref b105)] (hb hby own_d14_17) rfl rfl ?_
  refine own_s_aloadN X105.here hx (hb hby own_d14_18) rfl rfl ?_
  refine own_s_iconst X105.here hx (0 : Int32) (hb hby own_d14_19) rfl ?_
  refine own_s_aloadN X105.here hx (hb hby own_d14_20) rfl rfl ?_
  refine own_s_iconst X105.here hx (0 : Int32) (hb hby own_d14_21) rfl ?_
  refine own_s_aloadN X105.here hx (hb hby own_d14_22) rfl rfl ?_
  refine own_by (fun tq_ kq_ => own_len X105 hx hZ e105 f106 (z := (Int32.ofNat nI)) rfl (g := (mkF m 23 #[.val (.ref a_), .val (.int (Int32.ofNat kk)), .val (.ref b105)] [(.ref a_), (.int (0 : Int32)), (.ref b105), (.int (0 : Int32)), (.ref a_)])) rfl rfl (hb hby own_d14_23) tq_ kq_) ?_
  show own_Go p e below T105 (mkF m 24 #[.val (.ref a_), .val (.int (Int32.ofNat kk)), .val (.ref b105)] [(.int (Int32.ofNat nI)), (.int (0 : Int32)), (.ref b105), (.int (0 : Int32)), (.ref a_)]) _
  refine own_s_iloadN X105.here hx (hb hby own_d14_24) rfl ?_
  obtain ⟨_, _, ⟨T108, L108, k108, n108⟩, -, X108, ⟨Lc108, hQ108, l108, y108, z108⟩, st108⟩ := Jvm.LawKit.callS X105 hx (y := (⟨"java/lang/Math", "min", "(II)I"⟩ : MethodName)) hown (mvT hZ (hw _ (List.mem_of_getElem? (i := 90) rfl))) (mvT hZ (hw _ (List.mem_of_getElem? (i := 91) rfl))) (mvT hZ (hw _ (List.mem_of_getElem? (i := 2) rfl))) (mvT hZ (hw _ (List.mem_of_getElem? (i := 92) rfl))) (by decide) (backOf (W := 4) (own_r15 l Z a0 hw [] (Int32.ofNat nI) (Int32.ofNat kk)  h105 n0 SZ105 ) hZ (hw _ (List.mem_of_getElem? (i := 92) rfl)) (hw _ (List.mem_of_getElem? (i := 2) rfl)) (by decide) (by decide)) (g := (mkF m 25 #[.val (.ref a_), .val (.int (Int32.ofNat kk)), .val (.ref b105)] [(.int (Int32.ofNat kk)), (.int (Int32.ofNat nI)), (.int (0 : Int32)), (.ref b105), (.int (0 : Int32)), (.ref a_)])) rfl (by rw [hml]; rfl) (argsL := [(.int (Int32.ofNat nI)), (.int (Int32.ofNat kk))]) (rest := [(.int (0 : Int32)), (.ref b105), (.int (0 : Int32)), (.ref a_)]) (lenOf own_pd_0 rfl) rfl (by show 2 * 0 + _ ≤ _; exact Nat.le_of_eq rfl) (hb hby own_d14_25) (fun _ _ => ⟨rfl, e105, (by decide : 1 + 0 ≤ _), (by decide : 3 + 0 ≤ _)⟩)
  dsimp only [Pt.U, Pt.locs, Pt.cells, Pt.slots] at X108 l108 y108 z108 st108 hQ108
  subst l108 y108 z108
  obtain ⟨rfl, N108q, e108⟩ := hQ108
  have N108 := Fr.app N0 N108q
  refine own_by st108 ?_
  show own_Go p e below T108 (mkF m 28 #[.val (.ref a_), .val (.int (Int32.ofNat kk)), .val (.ref b105)] [(.int (own_f15 (Int32.ofNat nI) (Int32.ofNat kk))), (.int (0 : Int32)), (.ref b105), (.int (0 : Int32)), (.ref a_)]) _
  rw [show (own_f15 (Int32.ofNat nI) (Int32.ofNat kk)) = (Int32.ofNat kk) from own_mn hkk hnI]
  show own_Go p e below T108 (mkF m 28 #[.val (.ref a_), .val (.int (Int32.ofNat kk)), .val (.ref b105)] [(.int (Int32.ofNat kk)), (.int (0 : Int32)), (.ref b105), (.int (0 : Int32)), (.ref a_)]) _
  obtain ⟨T109, h109, L109, f109, X109, e109, N109, K109, fa109, st109⟩ := own_cpJ X108 hx hZ hown (hw _ (List.mem_of_getElem? (i := 93) rfl)) (hw _ (List.mem_of_getElem? (i := 96) rfl)) (hw _ (List.mem_of_getElem? (i := 94) rfl)) (hw _ (List.mem_of_getElem? (i := 95) rfl)) e108 f106 f107 (by omega) (by omega) N108 ge_b105 (g := (mkF m 28 #[.val (.ref a_), .val (.int (Int32.ofNat kk)), .val (.ref b105)] [(.int (Int32.ofNat kk)), (.int (0 : Int32)), (.ref b105), (.int (0 : Int32)), (.ref a_)])) rfl (by rw [hml]; rfl) rfl (hb hby own_d14_28) (by decide) (W := 0) (by show 2 * 0 + _ ≤ _; exact Nat.le_of_eq rfl) (by decide)
  have f110 := f106.keep K109 (ninS ne_a__b105 nin0)
  have SZ109 : n0 ≤ h109.size := Nat.le_trans SZ105 K109.1
  have KC109 := K105.trans K109 (allS (Or.inr sz_b105) all0)
  refine own_by st109 ?_
  show own_Go p e below T109 (mkF m 31 #[.val (.ref a_), .val (.int (Int32.ofNat kk)), .val (.ref b105)] []) _
  refine own_s_aloadN X109.here hx (hb hby own_d14_31) rfl rfl ?_
  refine own_retA X109 hx hret hlk (hb hby own_d14_32) rfl rfl rfl (by decide) (by decide) ?_
  rw [e109]
  exact ⟨b105, _, rfl, N109, ge_b105, sz_b105, KC109, fa109⟩
theorem own_d13_0 : decode prog_15_method_9_code 0 = .ok (.aload_n 0, 1) := by decide +kernel
theorem own_d13_1 : decode prog_15_method_9_code 1 = .ok (.aload_n 0, 1) := by decide +kernel
theorem own_d13_2 : decode prog_15_method_9_code 2 = .ok (.getfield 19, 3) := by decide +kernel
theorem own_d13_5 : decode prog_15_method_9_code 5 = .ok (.aload_n 0, 1) := by decide +kernel
theorem own_d13_6 : decode prog_15_method_9_code 6 = .ok (.getfield 27, 3) := by decide +kernel
theorem own_d13_9 : decode prog_15_method_9_code 9 = .ok (.invokestatic 63, 3) := by decide +kernel
theorem own_d13_12 : decode prog_15_method_9_code 12 = .ok (.putfield 19, 3) := by decide +kernel
theorem own_d13_15 : decode prog_15_method_9_code 15 = .ok (.return_, 1) := by decide +kernel
theorem own_ef13 (m : MethodId) (this : Addr) : entryFrame m #[(.ref this)] 1 = mkF m 0 #[.val (.ref this)] [] := by first | (simp [entryFrame, mkF, argsToLocals, Value.category]; done) | rfl
theorem own_pd_9 : parseMethodDescriptor "([JI)[J" = some ⟨[(.array .long), .int], some (.array .long)⟩ := by decide +kernel
def own_q_own_r13 (Z : State) (this : Addr) (aI aB : Addr) (nI kk : Nat) (fi : Nat → Int64) (h0 : Heap) (n0 : Nat) (v : Option Value) (h : Heap) (L : List Loc) : Prop := ∃ (bq : Addr) (fq : Nat → Value), v = none ∧ Fr n0 L ∧ Keep h0 h [this] ∧ n0 ≤ bq ∧ h0.size ≤ bq ∧ Fld Z h this "com/example/geodesic/geodesic/graph/IdIndex" "ids" "[J" (.ref bq) ∧ Fld Z h this "com/example/geodesic/geodesic/graph/IdIndex" "table" "[I" (.ref aB) ∧ own_Av Z h bq .long kk fq
set_option maxRecDepth 65536 in
set_option maxHeartbeats 40000000 in
theorem own_r13 (l : Launch) (Z : State) (a0 : Array Value) (hw : ∀ d ∈ tables_1, d.before a0 Z = true) (ws : List Jvm.Cond) (this : Addr) (aI aB : Addr) (nI kk : Nat) (fi : Nat → Int64) (h0 : Heap) (n0 : Nat) (Z0 : n0 ≤ h0.size) (hkk : kk ≤ 3) (hnI : 16 ≤ nI ∧ nI ≤ 2047) (E_this : Exa Z h0 this "com/example/geodesic/geodesic/graph/IdIndex") (F_this_ids : Fld Z h0 this "com/example/geodesic/geodesic/graph/IdIndex" "ids" "[J" (.ref aI)) (F_this_size : Fld Z h0 this "com/example/geodesic/geodesic/graph/IdIndex" "size" "I" (.int (Int32.ofNat kk))) (F_this_table : Fld Z h0 this "com/example/geodesic/geodesic/graph/IdIndex" "table" "[I" (.ref aB)) (ge_this : n0 ≤ this) (A_aI : own_Av Z h0 aI .long nI (fun i => .long (fi i))) (ne_this_aI : this ≠ aI) :
    MetFree l (⟨"com/example/geodesic/geodesic/graph/IdIndex", "trim", "()V"⟩ : MethodName) (head1 (Jvm.Cond.code (⟨"com/example/geodesic/geodesic/graph/IdIndex", "trim", "()V"⟩ : MethodName) prog_15_method_9_code 1 none :: ws) ({ frames := 2, cells := 1, slots := 3, locals := 33 } : Room)) (fun aq Uq => aq = #[(.ref this)] ∧ Z.Warmed39 Uq.vm ∧ Uq.heap = h0) (fun _ _ _ _ _ => True) (fun _ Uq oq Uq' => ∃ vq Lq, oq = .returned vq ∧ own_q_own_r13 Z this aI aB nI kk fi h0 n0 vq Uq'.heap Lq ∧ FrameEnd Uq oq Uq' Lq ({ frames := 2, cells := 1, slots := 3, locals := 33 } : Room).cells ({ frames := 2, cells := 1, slots := 3, locals := 33 } : Room).slots) := by
  refine MetFree.of_bodySF (plainFor_of_name own_pn_IdIndex) hisR ?_
  intro p e s m args below meth c T0 Bd hml0 hP hK
  obtain ⟨rfl, hZ, hh⟩ := hP
  have hx := Bd.exec
  have hby := Bd.bytes
  have hml : c.maxLocals = 1 := hml0
  have hown : s.vm.findClass "com/example/geodesic/geodesic/graph/IdIndex" = some m.cls := findClass_of_methodNamed Bd.named
  have hnm := (name_of_methodNamed Bd.named Bd.method).1
  have hret : meth.sig.returnType = none := Bd.returns
  have hlk : meth.locks = false := BodyLoose.notSynchronized Bd
  have X0 : Stand p l e ({ frames := 2, cells := 1, slots := 3, locals := 33 } : Room) s m #[(.ref this)] below meth c T0 [] 0 0 := Stand.of_body Bd
  have e0 : T0.heap = h0 := by rw [← hh, Bd.state]; rfl
  have N0 := Fr.nil n0
  refine own_start (own_ef13 m this) (Q := fun (v : Option Value) (h : Heap) (L : List Loc) => ∃ (bq : Addr) (fq : Nat → Value), v = none ∧ Fr n0 L ∧ Keep h0 h [this] ∧ n0 ≤ bq ∧ h0.size ≤ bq ∧ Fld Z h this "com/example/geodesic/geodesic/graph/IdIndex" "ids" "[J" (.ref bq) ∧ Fld Z h this "com/example/geodesic/geodesic/graph/IdIndex" "table" "[I" (.ref aB) ∧ own_Av Z h bq .long kk fq) (k := 1) (j := 3) ?_
  show own_Go p e below T0 (mkF m 0 #[.val (.ref this)] []) _
  have K0 := Keep.refl h0 [this]
  refine own_s_aloadN X0.here hx (hb hby own_d13_0) rfl rfl ?_
  refine own_s_aloadN X0.here hx (hb hby own_d13_1) rfl rfl ?_
  obtain ⟨T111, X111, e111, st111⟩ := getF X0 hx hZ hown (host := "") (Or.inl (hw _ (List.mem_of_getElem? (i := 25) rfl))) Via.refl e0 F_this_ids (g := (mkF m 2 #[.val (.ref this)] [(.ref this), (.ref this)])) rfl rfl (hb hby own_d13_2)
  refine own_by st111 ?_
  show own_Go p e below T111 (mkF m 5 #[.val (.ref this)] [(.ref aI), (.ref this)]) _
  refine own_s_aloadN X111.here hx (hb hby own_d13_5) rfl rfl ?_
  obtain ⟨T112, X112, e112, st112⟩ := getF X111 hx hZ hown (host := "") (Or.inl (hw _ (List.mem_of_getElem? (i := 75) rfl))) Via.refl e111 F_this_size (g := (mkF m 6 #[.val (.ref this)] [(.ref this), (.ref aI), (.ref this)])) rfl rfl (hb hby own_d13_6)
  refine own_by st112 ?_
  show own_Go p e below T112 (mkF m 9 #[.val (.ref this)] [(.int (Int32.ofNat kk)), (.ref aI), (.ref this)]) _
  obtain ⟨_, _, ⟨T113, L113, k113, n113⟩, -, X113, ⟨Lc113, hQ113, l113, y113, z113⟩, st113⟩ := Jvm.LawKit.callS X112 hx (y := (⟨"java/util/Arrays", "copyOf", "([JI)[J"⟩ : MethodName)) hown (mvT hZ (hw _ (List.mem_of_getElem? (i := 87) rfl))) (mvT hZ (hw _ (List.mem_of_getElem? (i := 88) rfl))) (mvT hZ (hw _ (List.mem_of_getElem? (i := 46) rfl))) (mvT hZ (hw _ (List.mem_of_getElem? (i := 89) rfl))) (by decide) (backOf (W := 1) (own_r14 l Z a0 hw [] aI (Int32.ofNat kk) nI kk fi h0 n0 Z0 rfl hkk hnI A_aI) hZ (hw _ (List.mem_of_getElem? (i := 89) rfl)) (hw _ (List.mem_of_getElem? (i := 46) rfl)) (by decide) (by decide)) (g := (mkF m 9 #[.val (.ref this)] [(.int (Int32.ofNat kk)), (.ref aI), (.ref this)])) rfl (by rw [hml]; rfl) (argsL := [(.ref aI), (.int (Int32.ofNat kk))]) (rest := [(.ref this)]) (lenOf own_pd_9 rfl) rfl (by show 2 * 0 + _ ≤ _; exact Nat.le_of_eq rfl) (hb hby own_d13_9) (fun _ _ => ⟨rfl, e112, (by decide : 0 + 1 ≤ _), (by decide : 0 + 3 ≤ _)⟩)
  dsimp only [Pt.U, Pt.locs, Pt.cells, Pt.slots] at X113 l113 y113 z113 st113 hQ113
  subst l113 y113 z113
  obtain ⟨bq113, fq113, rfl, N113q, gb113, zb113, K113, fa113⟩ := hQ113
  have N113 := Fr.app N0 N113q
  have f114 := E_this.keep K113
  have f115 := F_this_ids.keep K113 nin0
  have f116 := F_this_size.keep K113 nin0
  have f117 := F_this_table.keep K113 nin0
  have f118 := A_aI.keep K113 nin0
  have SZ113 : n0 ≤ T113.heap.size := Nat.le_trans Z0 K113.1
  have KC113 := K0.trans K113 all0
  refine own_by st113 ?_
  have sz_bq113 : h0.size ≤ bq113 := Nat.le_trans K0.1 zb113
  have ne_this_bq113 : this ≠ bq113 := Nat.ne_of_lt (Nat.lt_of_lt_of_le E_this.lt zb113)
  have ne_aI_bq113 : aI ≠ bq113 := Nat.ne_of_lt (Nat.lt_of_lt_of_le A_aI.lt zb113)
  show own_Go p e below T113 (mkF m 12 #[.val (.ref this)] [(.ref bq113), (.ref this)]) _
  obtain ⟨T119, h119, X119, e119, W119, st119⟩ := putF X113 hx hZ hown (host := "") (Or.inl (hw _ (List.mem_of_getElem? (i := 25) rfl))) Via.refl rfl f115 f114 (Or.inl (hw _ (List.mem_of_getElem? (i := 26) rfl))) (hw _ (List.mem_of_getElem? (i := 5) rfl)) (ty := (.array .long)) (by decide) rfl rfl (g := (mkF m 12 #[.val (.ref this)] [(.ref bq113), (.ref this)])) rfl rfl (hb hby own_d13_12)
  have fw119 := f115.same W119
  have f120 := f114.wr W119
  have f121 := f116.other W119 (Or.inr (slot_ne (Or.inl (hw _ (List.mem_of_getElem? (i := 76) rfl))) (Or.inl (hw _ (List.mem_of_getElem? (i := 26) rfl))) (by decide) (t := .int) (t' := (.array .long)) (by decide) (by decide)))
  have f122 := f117.other W119 (Or.inr (slot_ne (Or.inl (hw _ (List.mem_of_getElem? (i := 32) rfl))) (Or.inl (hw _ (List.mem_of_getElem? (i := 26) rfl))) (by decide) (t := (.array .int)) (t' := (.array .long)) (by decide) (by decide)))
  have f123 := f118.other W119 (Ne.symm ne_this_aI)
  have f124 := fa113.other W119 (Ne.symm ne_this_bq113)
  have N119 := Fr.snoc X119 N113 ge_this
  have SZ119 : n0 ≤ h119.size := by rw [W119.size]; exact SZ113
  have K119 := KC113.wr W119 (Or.inl (List.mem_of_getElem? (i := 0) rfl))
  refine own_by st119 ?_
  show own_Go p e below T119 (mkF m 15 #[.val (.ref this)] []) _
  refine own_retV X119 hx hret hlk (hb hby own_d13_15) (by decide) (by decide) ?_
  rw [e119]
  exact ⟨bq113, fq113, rfl, N119, K119, gb113, sz_bq113, fw119, f122, f124⟩
theorem own_lawF : ∀ i : Fin 2048, 16 ≤ i.val → (0 : Int64) < ((4 : Int64) * ((Int32.ofNat (own_tn i.val)).toInt64)) ∧ (((4 : Int64) * ((Int32.ofNat (own_tn i.val)).toInt64)) &&& (3 : Int64)) = (0 : Int64) ∧ ((4 : Int64) * ((Int32.ofNat (own_tn i.val)).toInt64)) / (4 : Int64) = ((Int32.ofNat (own_tn i.val)).toInt64) ∧ (((Int32.ofNat (own_tn i.val)).toInt64) &&& (((Int32.ofNat (own_tn i.val)).toInt64) - (1 : Int64))) = (0 : Int64) ∧ ¬ ((Int32.ofNat (own_tn i.val)).toInt64) < ((2 : Int64) * ((Int32.ofNat i.val).toInt64)) ∧ ((Int32.ofNat (own_tn i.val)).toInt64) < ((4 : Int64) * ((Int32.ofNat i.val).toInt64)) := by decide +kernel
theorem own_lawT {n : Nat} (h : 16 ≤ n ∧ n ≤ 2047) : (0 : Int64) < ((4 : Int64) * ((Int32.ofNat (own_tn n)).toInt64)) ∧ (((4 : Int64) * ((Int32.ofNat (own_tn n)).toInt64)) &&& (3 : Int64)) = (0 : Int64) ∧ ((4 : Int64) * ((Int32.ofNat (own_tn n)).toInt64)) / (4 : Int64) = ((Int32.ofNat (own_tn n)).toInt64) ∧ (((Int32.ofNat (own_tn n)).toInt64) &&& (((Int32.ofNat (own_tn n)).toInt64) - (1 : Int64))) = (0 : Int64) ∧ ¬ ((Int32.ofNat (own_tn n)).toInt64) < ((2 : Int64) * ((Int32.ofNat n).toInt64)) ∧ ((Int32.ofNat (own_tn n)).toInt64) < ((4 : Int64) * ((Int32.ofNat n).toInt64)) := own_lawF ⟨n, by omega⟩ h.1
theorem own_dd (x y : Int64) : x + y - x = y := by rw [Int64.add_comm, Int64.add_sub_cancel]
theorem own_maxh (x : Int32) : ∃ n : Nat, own_f1 (x % (2048 : Int32)) (16 : Int32) = Int32.ofNat n ∧ 16 ≤ n ∧ n ≤ 2047 := by
  have h1 : (x % (2048 : Int32)).toInt < 2048 := by
    have := Jvm.Kit.i32_rem x (2048 : Int32)
    rw [this]; exact Int.tmod_lt_of_pos _ (by decide)
  generalize x % (2048 : Int32) = y at *
  have h2 : ∃ z : Int32, own_f1 y (16 : Int32) = z ∧ 16 ≤ z.toInt ∧ z.toInt ≤ 2047 := by
    unfold own_f1
    refine ⟨_, rfl, ?_⟩
    split <;> rename_i q <;> simp only [Int32.lt_iff_toInt_lt, Int32.reduceToInt] at q ⊢ <;> omega
  obtain ⟨z, e, h3, h4⟩ := h2
  refine ⟨z.toInt.toNat, ?_, by omega, by omega⟩
  rw [e]; apply Int32.toInt_inj.mp; rw [own_toI (by omega)]; omega
theorem own_pn_IdIndexMemoryBytesPinLaw : plainName "com/example/geodesic/geodesic/graph/IdIndexMemoryBytesPinLaw" = true := by first | (simp [plainName, overriddenIn]; done) | decide +kernel
theorem own_pd_7 : parseMethodDescriptor "()J" = some ⟨[], some .long⟩ := by decide +kernel
theorem own_pd_2 : parseMethodDescriptor "()V" = some ⟨[], none⟩ := by decide +kernel
set_option maxRecDepth 65536 in
set_option maxHeartbeats 40000000 in
theorem own_p179 {p : Program} {l : Launch} {e : Env} {s : State} {m : MethodId} {args : Array Value} {below : List Frame} {meth : Method} {c : Code} {Z : State} {a0 : Array Value} {n0 : Nat} (hx : p.tables.exec = Jvm.exec) (hZ : Z.Warmed39 s.vm) (hw : ∀ d ∈ tables_1, d.before a0 Z = true) (hby : c.code = code) (hml : c.maxLocals = 18) (hown : s.vm.findClass "com/example/geodesic/geodesic/graph/IdIndexMemoryBytesPinLaw" = some m.cls) (hnm : meth.name = "law") (hret : meth.sig.returnType = (some .boolean)) (hlk : meth.locks = false) (e_ f_ ex dt : Int32) (ax : Int64) (n kk kz : Nat) (ob aI aB : Addr) (fi : Nat → Int64) (fB : Nat → Value) {T0 : State} {locs : List Loc} {h0 : Heap} (X0 : Stand p l e room_1 s m args below meth c T0 locs 5 6172) (e0 : T0.heap = h0) (N0 : Fr n0 locs) (Z0 : n0 ≤ h0.size) (hkz : kz ≤ h0.size) (hn : 16 ≤ n ∧ n ≤ 2047) (hkk : kk ≤ 3) (E_ob : Exa Z h0 ob "com/example/geodesic/geodesic/graph/IdIndex") (F_ob_ids : Fld Z h0 ob "com/example/geodesic/geodesic/graph/IdIndex" "ids" "[J" (.ref aI)) (F_ob_size : Fld Z h0 ob "com/example/geodesic/geodesic/graph/IdIndex" "size" "I" (.int (Int32.ofNat kk))) (F_ob_table : Fld Z h0 ob "com/example/geodesic/geodesic/graph/IdIndex" "table" "[I" (.ref aB)) (ge_ob : n0 ≤ ob) (A_aI : own_Av Z h0 aI .long n (fun i => .long (fi i))) (A_aB : own_Av Z h0 aB .int (own_tn n) fB) (ne_ob_aI : ob ≠ aI) (ne_ob_aB : ob ≠ aB) :
    own_Go p e below T0 (mkF m 179 #[.val (.int e_), .val (.long ax), .second, .val (.int f_), .val (.int ex), .val (.long ((Int32.ofNat n).toInt64)), .second, .val (.int (Int32.ofNat kk)), .val (.int dt), .val (.ref ob), .val (.long (((8 : Int64) * ((Int32.ofNat n).toInt64)) + ((4 : Int64) * ((Int32.ofNat (own_tn n)).toInt64)))), .second, .val (.long ((4 : Int64) * ((Int32.ofNat (own_tn n)).toInt64))), .second, .val (.long ((Int32.ofNat (own_tn n)).toInt64)), .second, .unset, .unset] []) (own_Fin s (fun (v : Option Value) (h : Heap) (L : List Loc) => (v = some (.int (1 : Int32)) ∧ Fr n0 L) ∧ kz ≤ h.size) 24 13440) := by
  show own_Go p e below T0 (mkF m 179 #[.val (.int e_), .val (.long ax), .second, .val (.int f_), .val (.int ex), .val (.long ((Int32.ofNat n).toInt64)), .second, .val (.int (Int32.ofNat kk)), .val (.int dt), .val (.ref ob), .val (.long (((8 : Int64) * ((Int32.ofNat n).toInt64)) + ((4 : Int64) * ((Int32.ofNat (own_tn n)).toInt64)))), .second, .val (.long ((4 : Int64) * ((Int32.ofNat (own_tn n)).toInt64))), .second, .val (.long ((Int32.ofNat (own_tn n)).toInt64)), .second, .unset, .unset] []) _
  have K0 := Keep.refl h0 [ob, aI, aB]
  refine own_s_iload X0.here hx (hb hby at_179) rfl ?_
  by_cases hdt0 : dt = 0
  ·
    show own_Go p e below T0 (mkF m 181 #[.val (.int e_), .val (.long ax), .second, .val (.int f_), .val (.int ex), .val (.long ((Int32.ofNat n).toInt64)), .second, .val (.int (Int32.ofNat kk)), .val (.int dt), .val (.ref ob), .val (.long (((8 : Int64) * ((Int32.ofNat n).toInt64)) + ((4 : Int64) * ((Int32.ofNat (own_tn n)).toInt64)))), .second, .val (.long ((4 : Int64) * ((Int32.ofNat (own_tn n)).toInt64))), .second, .val (.long ((Int32.ofNat (own_tn n)).toInt64)), .second, .unset, .unset] [(.int dt)]) _
    refine own_s_ifYes X0.here hx 189 (hb hby at_181) (Jvm.Free.XT.i0_eq_t hdt0) (by decide) (by decide) ?_
    refine own_s_aload X0.here hx (hb hby at_189) rfl rfl ?_
    obtain ⟨cq125, kq125, q125a, q125b, q125c⟩ := isOf hZ e0 E_ob
    obtain ⟨_, _, ⟨T125, L125, k125, n125⟩, -, X125, ⟨Lc125, hQ125, l125, y125, z125⟩, st125⟩ := X0.virtualBack hx (y := (⟨"com/example/geodesic/geodesic/graph/IdIndex", "memoryBytes", "()J"⟩ : MethodName)) (z := (⟨"com/example/geodesic/geodesic/graph/IdIndex", "memoryBytes", "()J"⟩ : MethodName)) hown (mvT hZ (hw _ (List.mem_of_getElem? (i := 50) rfl))) (mvT hZ (hw _ (List.mem_of_getElem? (i := 51) rfl))) (notFace_of_selects (args := #[]) (mvT hZ (hw _ (List.mem_of_getElem? (i := 53) rfl)))) (mvT hZ (hw _ (List.mem_of_getElem? (i := 53) rfl))) (mvT hZ (hw _ (List.mem_of_getElem? (i := 52) rfl))) (by decide) (backOf (W := 0) (own_r8 l Z a0 hw [] ob aI aB n (own_tn n) (fun i => .long (fi i)) fB h0 n0 Z0 E_ob F_ob_ids F_ob_table A_aI A_aB) hZ (hw _ (List.mem_of_getElem? (i := 54) rfl)) (hw _ (List.mem_of_getElem? (i := 6) rfl)) (by decide) (by decide)) q125a q125c (g := (mkF m 191 #[.val (.int e_), .val (.long ax), .second, .val (.int f_), .val (.int ex), .val (.long ((Int32.ofNat n).toInt64)), .second, .val (.int (Int32.ofNat kk)), .val (.int dt), .val (.ref ob), .val (.long (((8 : Int64) * ((Int32.ofNat n).toInt64)) + ((4 : Int64) * ((Int32.ofNat (own_tn n)).toInt64)))), .second, .val (.long ((4 : Int64) * ((Int32.ofNat (own_tn n)).toInt64))), .second, .val (.long ((Int32.ofNat (own_tn n)).toInt64)), .second, .unset, .unset] [(.ref ob)])) rfl (by rw [hml]; rfl) (Steps.refl _) (argsL := []) (rest := []) (lenOf own_pd_7 rfl) rfl (by show 2 * 0 + _ ≤ _; exact Nat.le_of_eq rfl) (hb hby at_191) (fun _ _ => ⟨rfl, e0, (by decide : 5 + 0 ≤ _), (by decide : 6172 + 0 ≤ _)⟩)
    dsimp only [Pt.U, Pt.locs, Pt.cells, Pt.slots] at X125 l125 y125 z125 st125 hQ125
    subst l125 y125 z125
    obtain ⟨rfl, N125q, e125⟩ := hQ125
    have N125 := Fr.app N0 N125q
    refine own_by (fun t k => st125.trans k) ?_
    show own_Go p e below T125 (mkF m 194 #[.val (.int e_), .val (.long ax), .second, .val (.int f_), .val (.int ex), .val (.long ((Int32.ofNat n).toInt64)), .second, .val (.int (Int32.ofNat kk)), .val (.int dt), .val (.ref ob), .val (.long (((8 : Int64) * ((Int32.ofNat n).toInt64)) + ((4 : Int64) * ((Int32.ofNat (own_tn n)).toInt64)))), .second, .val (.long ((4 : Int64) * ((Int32.ofNat (own_tn n)).toInt64))), .second, .val (.long ((Int32.ofNat (own_tn n)).toInt64)), .second, .unset, .unset] [(.long (((8 : Int64) * ((Int32.ofNat n).toInt64)) + ((4 : Int64) * ((Int32.ofNat (own_tn n)).toInt64))))]) _
    refine own_s_lstore X125.here hx #[.val (.int e_), .val (.long ax), .second, .val (.int f_), .val (.int ex), .val (.long ((Int32.ofNat n).toInt64)), .second, .val (.int (Int32.ofNat kk)), .val (.int dt), .val (.ref ob), .val (.long (((8 : Int64) * ((Int32.ofNat n).toInt64)) + ((4 : Int64) * ((Int32.ofNat (own_tn n)).toInt64)))), .second, .val (.long ((4 : Int64) * ((Int32.ofNat (own_tn n)).toInt64))), .second, .val (.long ((Int32.ofNat (own_tn n)).toInt64)), .second, .val (.long (((8 : Int64) * ((Int32.ofNat n).toInt64)) + ((4 : Int64) * ((Int32.ofNat (own_tn n)).toInt64)))), .second] (hb hby at_194) rfl ?_
    refine own_s_iload X125.here hx (hb hby at_196) rfl ?_
    show own_Go p e below T125 (mkF m 198 #[.val (.int e_), .val (.long ax), .second, .val (.int f_), .val (.int ex), .val (.long ((Int32.ofNat n).toInt64)), .second, .val (.int (Int32.ofNat kk)), .val (.int dt), .val (.ref ob), .val (.long (((8 : Int64) * ((Int32.ofNat n).toInt64)) + ((4 : Int64) * ((Int32.ofNat (own_tn n)).toInt64)))), .second, .val (.long ((4 : Int64) * ((Int32.ofNat (own_tn n)).toInt64))), .second, .val (.long ((Int32.ofNat (own_tn n)).toInt64)), .second, .val (.long (((8 : Int64) * ((Int32.ofNat n).toInt64)) + ((4 : Int64) * ((Int32.ofNat (own_tn n)).toInt64)))), .second] [(.int dt)]) _
    refine own_s_ifYes X125.here hx 227 (hb hby at_198) (Jvm.Free.XT.i0_eq_t hdt0) (by decide) (by decide) ?_
    refine own_s_lload X125.here hx (hb hby at_227) rfl ?_
    refine own_s_lload X125.here hx (hb hby at_229) rfl ?_
    refine own_s_lcmp X125.here hx (hb hby at_231) ?_
    refine own_s_ifNo X125.here hx (hb hby at_232) (Jvm.Free.XT.ll_ne_f rfl) ?_
    refine own_s_iconst X125.here hx (1 : Int32) (hb hby at_235) rfl ?_
    show own_Go p e below T125 (mkF m 236 #[.val (.int e_), .val (.long ax), .second, .val (.int f_), .val (.int ex), .val (.long ((Int32.ofNat n).toInt64)), .second, .val (.int (Int32.ofNat kk)), .val (.int dt), .val (.ref ob), .val (.long (((8 : Int64) * ((Int32.ofNat n).toInt64)) + ((4 : Int64) * ((Int32.ofNat (own_tn n)).toInt64)))), .second, .val (.long ((4 : Int64) * ((Int32.ofNat (own_tn n)).toInt64))), .second, .val (.long ((Int32.ofNat (own_tn n)).toInt64)), .second, .val (.long (((8 : Int64) * ((Int32.ofNat n).toInt64)) + ((4 : Int64) * ((Int32.ofNat (own_tn n)).toInt64)))), .second] [(.int (1 : Int32))]) _
    refine own_s_goto X125.here hx 240 (hb hby at_236) (by decide) (by decide) ?_
    refine own_retZ X125 hx hret hlk (hb hby at_240) rfl (by decide) (by decide) ?_
    rw [e125]
    exact ⟨⟨rfl, N125⟩, Nat.le_trans hkz K0.1⟩
  ·
    refine own_s_ifNo X0.here hx (hb hby at_181) (Jvm.Free.XT.i0_eq_f hdt0) ?_
    refine own_s_aload X0.here hx (hb hby at_184) rfl rfl ?_
    obtain ⟨cq126, kq126, q126a, q126b, q126c⟩ := isOf hZ e0 E_ob
    obtain ⟨_, _, ⟨T126, L126, k126, n126⟩, -, X126, ⟨Lc126, hQ126, l126, y126, z126⟩, st126⟩ := X0.virtualBack hx (y := (⟨"com/example/geodesic/geodesic/graph/IdIndex", "trim", "()V"⟩ : MethodName)) (z := (⟨"com/example/geodesic/geodesic/graph/IdIndex", "trim", "()V"⟩ : MethodName)) hown (mvT hZ (hw _ (List.mem_of_getElem? (i := 82) rfl))) (mvT hZ (hw _ (List.mem_of_getElem? (i := 83) rfl))) (notFace_of_selects (args := #[]) (mvT hZ (hw _ (List.mem_of_getElem? (i := 85) rfl)))) (mvT hZ (hw _ (List.mem_of_getElem? (i := 85) rfl))) (mvT hZ (hw _ (List.mem_of_getElem? (i := 84) rfl))) (by decide) (backOf (W := 0) (own_r13 l Z a0 hw [] ob aI aB n kk fi h0 n0 Z0 hkk hn E_ob F_ob_ids F_ob_size F_ob_table ge_ob A_aI ne_ob_aI) hZ (hw _ (List.mem_of_getElem? (i := 86) rfl)) (hw _ (List.mem_of_getElem? (i := 6) rfl)) (by decide) (by decide)) q126a q126c (g := (mkF m 186 #[.val (.int e_), .val (.long ax), .second, .val (.int f_), .val (.int ex), .val (.long ((Int32.ofNat n).toInt64)), .second, .val (.int (Int32.ofNat kk)), .val (.int dt), .val (.ref ob), .val (.long (((8 : Int64) * ((Int32.ofNat n).toInt64)) + ((4 : Int64) * ((Int32.ofNat (own_tn n)).toInt64)))), .second, .val (.long ((4 : Int64) * ((Int32.ofNat (own_tn n)).toInt64))), .second, .val (.long ((Int32.ofNat (own_tn n)).toInt64)), .second, .unset, .unset] [(.ref ob)])) rfl (by rw [hml]; rfl) (Steps.refl _) (argsL := []) (rest := []) (lenOf own_pd_2 rfl) rfl (by show 2 * 0 + _ ≤ _; exact Nat.le_of_eq rfl) (hb hby at_186) (fun _ _ => ⟨rfl, e0, (by decide : 5 + 1 ≤ _), (by decide : 6172 + 3 ≤ _)⟩)
    dsimp only [Pt.U, Pt.locs, Pt.cells, Pt.slots] at X126 l126 y126 z126 st126 hQ126
    subst l126 y126 z126
    obtain ⟨bq126, fq126, rfl, N126q, K126, gb126, zb126, fids126, ftab126, fa126⟩ := hQ126
    have N126 := Fr.app N0 N126q
    have f127 := E_ob.keep K126
    have f128 := A_aI.keep K126 (ninS (Ne.symm ne_ob_aI) nin0)
    have f129 := A_aB.keep K126 (ninS (Ne.symm ne_ob_aB) nin0)
    have SZ126 : n0 ≤ T126.heap.size := Nat.le_trans Z0 K126.1
    have KC126 := K0.trans K126 (allS (Or.inl (List.mem_of_getElem? (i := 0) rfl)) all0)
    refine own_by (fun t k => st126.trans k) ?_
    have sz_bq126 : h0.size ≤ bq126 := Nat.le_trans K0.1 zb126
    have ne_ob_bq126 : ob ≠ bq126 := Nat.ne_of_lt (Nat.lt_of_lt_of_le E_ob.lt zb126)
    have ne_aI_bq126 : aI ≠ bq126 := Nat.ne_of_lt (Nat.lt_of_lt_of_le A_aI.lt zb126)
    have ne_aB_bq126 : aB ≠ bq126 := Nat.ne_of_lt (Nat.lt_of_lt_of_le A_aB.lt zb126)
    show own_Go p e below T126 (mkF m 189 #[.val (.int e_), .val (.long ax), .second, .val (.int f_), .val (.int ex), .val (.long ((Int32.ofNat n).toInt64)), .second, .val (.int (Int32.ofNat kk)), .val (.int dt), .val (.ref ob), .val (.long (((8 : Int64) * ((Int32.ofNat n).toInt64)) + ((4 : Int64) * ((Int32.ofNat (own_tn n)).toInt64)))), .second, .val (.long ((4 : Int64) * ((Int32.ofNat (own_tn n)).toInt64))), .second, .val (.long ((Int32.ofNat (own_tn n)).toInt64)), .second, .unset, .unset] []) _
    refine own_s_aload X126.here hx (hb hby at_189) rfl rfl ?_
    obtain ⟨cq130, kq130, q130a, q130b, q130c⟩ := isOf hZ rfl f127
    obtain ⟨_, _, ⟨T130, L130, k130, n130⟩, -, X130, ⟨Lc130, hQ130, l130, y130, z130⟩, st130⟩ := X126.virtualBack hx (y := (⟨"com/example/geodesic/geodesic/graph/IdIndex", "memoryBytes", "()J"⟩ : MethodName)) (z := (⟨"com/example/geodesic/geodesic/graph/IdIndex", "memoryBytes", "()J"⟩ : MethodName)) hown (mvT hZ (hw _ (List.mem_of_getElem? (i := 50) rfl))) (mvT hZ (hw _ (List.mem_of_getElem? (i := 51) rfl))) (notFace_of_selects (args := #[]) (mvT hZ (hw _ (List.mem_of_getElem? (i := 53) rfl)))) (mvT hZ (hw _ (List.mem_of_getElem? (i := 53) rfl))) (mvT hZ (hw _ (List.mem_of_getElem? (i := 52) rfl))) (by decide) (backOf (W := 0) (own_r8 l Z a0 hw [] ob bq126 aB kk (own_tn n) fq126 fB T126.heap n0 SZ126 f127 fids126 ftab126 fa126 f129) hZ (hw _ (List.mem_of_getElem? (i := 54) rfl)) (hw _ (List.mem_of_getElem? (i := 6) rfl)) (by decide) (by decide)) q130a q130c (g := (mkF m 191 #[.val (.int e_), .val (.long ax), .second, .val (.int f_), .val (.int ex), .val (.long ((Int32.ofNat n).toInt64)), .second, .val (.int (Int32.ofNat kk)), .val (.int dt), .val (.ref ob), .val (.long (((8 : Int64) * ((Int32.ofNat n).toInt64)) + ((4 : Int64) * ((Int32.ofNat (own_tn n)).toInt64)))), .second, .val (.long ((4 : Int64) * ((Int32.ofNat (own_tn n)).toInt64))), .second, .val (.long ((Int32.ofNat (own_tn n)).toInt64)), .second, .unset, .unset] [(.ref ob)])) rfl (by rw [hml]; rfl) (Steps.refl _) (argsL := []) (rest := []) (lenOf own_pd_7 rfl) rfl (by show 2 * 0 + _ ≤ _; exact Nat.le_of_eq rfl) (hb hby at_191) (fun _ _ => ⟨rfl, rfl, (by decide : 6 + 0 ≤ _), (by decide : 6175 + 0 ≤ _)⟩)
    dsimp only [Pt.U, Pt.locs, Pt.cells, Pt.slots] at X130 l130 y130 z130 st130 hQ130
    subst l130 y130 z130
    obtain ⟨rfl, N130q, e130⟩ := hQ130
    have N130 := Fr.app N126 N130q
    refine own_by (fun t k => st130.trans k) ?_
    show own_Go p e below T130 (mkF m 194 #[.val (.int e_), .val (.long ax), .second, .val (.int f_), .val (.int ex), .val (.long ((Int32.ofNat n).toInt64)), .second, .val (.int (Int32.ofNat kk)), .val (.int dt), .val (.ref ob), .val (.long (((8 : Int64) * ((Int32.ofNat n).toInt64)) + ((4 : Int64) * ((Int32.ofNat (own_tn n)).toInt64)))), .second, .val (.long ((4 : Int64) * ((Int32.ofNat (own_tn n)).toInt64))), .second, .val (.long ((Int32.ofNat (own_tn n)).toInt64)), .second, .unset, .unset] [(.long (((8 : Int64) * ((Int32.ofNat kk).toInt64)) + ((4 : Int64) * ((Int32.ofNat (own_tn n)).toInt64))))]) _
    refine own_s_lstore X130.here hx #[.val (.int e_), .val (.long ax), .second, .val (.int f_), .val (.int ex), .val (.long ((Int32.ofNat n).toInt64)), .second, .val (.int (Int32.ofNat kk)), .val (.int dt), .val (.ref ob), .val (.long (((8 : Int64) * ((Int32.ofNat n).toInt64)) + ((4 : Int64) * ((Int32.ofNat (own_tn n)).toInt64)))), .second, .val (.long ((4 : Int64) * ((Int32.ofNat (own_tn n)).toInt64))), .second, .val (.long ((Int32.ofNat (own_tn n)).toInt64)), .second, .val (.long (((8 : Int64) * ((Int32.ofNat kk).toInt64)) + ((4 : Int64) * ((Int32.ofNat (own_tn n)).toInt64)))), .second] (hb hby at_194) rfl ?_
    refine own_s_iload X130.here hx (hb hby at_196) rfl ?_
    refine own_s_ifNo X130.here hx (hb hby at_198) (Jvm.Free.XT.i0_eq_f hdt0) ?_
    refine own_s_lload X130.here hx (hb hby at_201) rfl ?_
    refine own_by (fun tq_ kq_ => X130.ldc2Long hx hown (mvT hZ (hw _ (List.mem_of_getElem? (i := 57) rfl))) (g := (mkF m 203 #[.val (.int e_), .val (.long ax), .second, .val (.int f_), .val (.int ex), .val (.long ((Int32.ofNat n).toInt64)), .second, .val (.int (Int32.ofNat kk)), .val (.int dt), .val (.ref ob), .val (.long (((8 : Int64) * ((Int32.ofNat n).toInt64)) + ((4 : Int64) * ((Int32.ofNat (own_tn n)).toInt64)))), .second, .val (.long ((4 : Int64) * ((Int32.ofNat (own_tn n)).toInt64))), .second, .val (.long ((Int32.ofNat (own_tn n)).toInt64)), .second, .val (.long (((8 : Int64) * ((Int32.ofNat kk).toInt64)) + ((4 : Int64) * ((Int32.ofNat (own_tn n)).toInt64)))), .second] [(.long (((8 : Int64) * ((Int32.ofNat kk).toInt64)) + ((4 : Int64) * ((Int32.ofNat (own_tn n)).toInt64))))])) rfl (hb hby at_203) tq_ kq_) ?_
    show own_Go p e below T130 (mkF m 206 #[.val (.int e_), .val (.long ax), .second, .val (.int f_), .val (.int ex), .val (.long ((Int32.ofNat n).toInt64)), .second, .val (.int (Int32.ofNat kk)), .val (.int dt), .val (.ref ob), .val (.long (((8 : Int64) * ((Int32.ofNat n).toInt64)) + ((4 : Int64) * ((Int32.ofNat (own_tn n)).toInt64)))), .second, .val (.long ((4 : Int64) * ((Int32.ofNat (own_tn n)).toInt64))), .second, .val (.long ((Int32.ofNat (own_tn n)).toInt64)), .second, .val (.long (((8 : Int64) * ((Int32.ofNat kk).toInt64)) + ((4 : Int64) * ((Int32.ofNat (own_tn n)).toInt64)))), .second] [(.long (8 : Int64)), (.long (((8 : Int64) * ((Int32.ofNat kk).toInt64)) + ((4 : Int64) * ((Int32.ofNat (own_tn n)).toInt64))))]) _
    refine own_s_iload X130.here hx (hb hby at_206) rfl ?_
    refine own_s_i2l X130.here hx (hb hby at_208) ?_
    refine own_s_lmul X130.here hx (hb hby at_209) ?_
    refine own_by (fun tq_ kq_ => X130.ldc2Long hx hown (mvT hZ (hw _ (List.mem_of_getElem? (i := 59) rfl))) (g := (mkF m 210 #[.val (.int e_), .val (.long ax), .second, .val (.int f_), .val (.int ex), .val (.long ((Int32.ofNat n).toInt64)), .second, .val (.int (Int32.ofNat kk)), .val (.int dt), .val (.ref ob), .val (.long (((8 : Int64) * ((Int32.ofNat n).toInt64)) + ((4 : Int64) * ((Int32.ofNat (own_tn n)).toInt64)))), .second, .val (.long ((4 : Int64) * ((Int32.ofNat (own_tn n)).toInt64))), .second, .val (.long ((Int32.ofNat (own_tn n)).toInt64)), .second, .val (.long (((8 : Int64) * ((Int32.ofNat kk).toInt64)) + ((4 : Int64) * ((Int32.ofNat (own_tn n)).toInt64)))), .second] [(.long ((8 : Int64) * ((Int32.ofNat kk).toInt64))), (.long (((8 : Int64) * ((Int32.ofNat kk).toInt64)) + ((4 : Int64) * ((Int32.ofNat (own_tn n)).toInt64))))])) rfl (hb hby at_210) tq_ kq_) ?_
    show own_Go p e below T130 (mkF m 213 #[.val (.int e_), .val (.long ax), .second, .val (.int f_), .val (.int ex), .val (.long ((Int32.ofNat n).toInt64)), .second, .val (.int (Int32.ofNat kk)), .val (.int dt), .val (.ref ob), .val (.long (((8 : Int64) * ((Int32.ofNat n).toInt64)) + ((4 : Int64) * ((Int32.ofNat (own_tn n)).toInt64)))), .second, .val (.long ((4 : Int64) * ((Int32.ofNat (own_tn n)).toInt64))), .second, .val (.long ((Int32.ofNat (own_tn n)).toInt64)), .second, .val (.long (((8 : Int64) * ((Int32.ofNat kk).toInt64)) + ((4 : Int64) * ((Int32.ofNat (own_tn n)).toInt64)))), .second] [(.long (4 : Int64)), (.long ((8 : Int64) * ((Int32.ofNat kk).toInt64))), (.long (((8 : Int64) * ((Int32.ofNat kk).toInt64)) + ((4 : Int64) * ((Int32.ofNat (own_tn n)).toInt64))))]) _
    refine own_s_lload X130.here hx (hb hby at_213) rfl ?_
    refine own_s_lmul X130.here hx (hb hby at_215) ?_
    refine own_s_ladd X130.here hx (hb hby at_216) ?_
    refine own_s_lcmp X130.here hx (hb hby at_217) ?_
    refine own_s_ifNo X130.here hx (hb hby at_218) (Jvm.Free.XT.ll_ne_f rfl) ?_
    refine own_s_iconst X130.here hx (1 : Int32) (hb hby at_221) rfl ?_
    show own_Go p e below T130 (mkF m 222 #[.val (.int e_), .val (.long ax), .second, .val (.int f_), .val (.int ex), .val (.long ((Int32.ofNat n).toInt64)), .second, .val (.int (Int32.ofNat kk)), .val (.int dt), .val (.ref ob), .val (.long (((8 : Int64) * ((Int32.ofNat n).toInt64)) + ((4 : Int64) * ((Int32.ofNat (own_tn n)).toInt64)))), .second, .val (.long ((4 : Int64) * ((Int32.ofNat (own_tn n)).toInt64))), .second, .val (.long ((Int32.ofNat (own_tn n)).toInt64)), .second, .val (.long (((8 : Int64) * ((Int32.ofNat kk).toInt64)) + ((4 : Int64) * ((Int32.ofNat (own_tn n)).toInt64)))), .second] [(.int (1 : Int32))]) _
    refine own_s_goto X130.here hx 226 (hb hby at_222) (by decide) (by decide) ?_
    refine own_retZ X130 hx hret hlk (hb hby at_226) rfl (by decide) (by decide) ?_
    rw [e130]
    exact ⟨⟨rfl, N130⟩, Nat.le_trans hkz KC126.1⟩
theorem own_pd_1 : parseMethodDescriptor "(Ljava/lang/String;I)V" = some ⟨[(.object "java/lang/String"), .int], none⟩ := by decide +kernel
set_option maxRecDepth 65536 in
set_option maxHeartbeats 40000000 in
theorem own_p41 {p : Program} {l : Launch} {e : Env} {s : State} {m : MethodId} {args : Array Value} {below : List Frame} {meth : Method} {c : Code} {Z : State} {a0 : Array Value} {n0 : Nat} (hx : p.tables.exec = Jvm.exec) (hZ : Z.Warmed39 s.vm) (hw : ∀ d ∈ tables_1, d.before a0 Z = true) (hby : c.code = code) (hml : c.maxLocals = 18) (hown : s.vm.findClass "com/example/geodesic/geodesic/graph/IdIndexMemoryBytesPinLaw" = some m.cls) (hnm : meth.name = "law") (hret : meth.sig.returnType = (some .boolean)) (hlk : meth.locks = false) (e_ f_ ex dt kq : Int32) (ax : Int64) (n kz : Nat) (ob sa : Addr) {T0 : State} {locs : List Loc} {h0 : Heap} (X0 : Stand p l e room_1 s m args below meth c T0 locs 3 29) (e0 : T0.heap = h0) (N0 : Fr n0 locs) (Z0 : n0 ≤ h0.size) (hkz : kz ≤ h0.size) (hn : 16 ≤ n ∧ n ≤ 2047) (hz : own_f1 ex (16 : Int32) = Int32.ofNat n) (hkk : kq = 0 ∨ kq = 1 ∨ kq = 2 ∨ kq = 3) (E_ob : Exa Z h0 ob "com/example/geodesic/geodesic/graph/IdIndex") (F_ob_what : Fld Z h0 ob "com/example/geodesic/geodesic/graph/IdIndex" "what" "Ljava/lang/String;" .null) (F_ob_ids : Fld Z h0 ob "com/example/geodesic/geodesic/graph/IdIndex" "ids" "[J" .null) (F_ob_size : Fld Z h0 ob "com/example/geodesic/geodesic/graph/IdIndex" "size" "I" (.int (0 : Int32))) (F_ob_table : Fld Z h0 ob "com/example/geodesic/geodesic/graph/IdIndex" "table" "[I" .null) (F_ob_shift : Fld Z h0 ob "com/example/geodesic/geodesic/graph/IdIndex" "shift" "I" (.int (0 : Int32))) (ge_ob : n0 ≤ ob) :
    own_Go p e below T0 (mkF m 41 #[.val (.int e_), .val (.long ax), .second, .val (.int f_), .val (.int ex), .val (.long ((Int32.ofNat n).toInt64)), .second, .val (.int kq), .val (.int dt), .unset, .unset, .unset, .unset, .unset, .unset, .unset, .unset, .unset] [(.ref sa), (.ref ob), (.ref ob)]) (own_Fin s (fun (v : Option Value) (h : Heap) (L : List Loc) => (v = some (.int (1 : Int32)) ∧ Fr n0 L) ∧ kz ≤ h.size) 24 13440) := by
  show own_Go p e below T0 (mkF m 41 #[.val (.int e_), .val (.long ax), .second, .val (.int f_), .val (.int ex), .val (.long ((Int32.ofNat n).toInt64)), .second, .val (.int kq), .val (.int dt), .unset, .unset, .unset, .unset, .unset, .unset, .unset, .unset, .unset] [(.ref sa), (.ref ob), (.ref ob)]) _
  have K0 := Keep.refl h0 [ob]
  have hl := own_lawT hn
  refine own_s_iload X0.here hx (hb hby at_41) rfl ?_
  obtain ⟨_, _, ⟨T131, L131, k131, n131⟩, -, X131, ⟨Lc131, hQ131, l131, y131, z131⟩, st131⟩ := X0.specialBack hx (y := (⟨"com/example/geodesic/geodesic/graph/IdIndex", "<init>", "(Ljava/lang/String;I)V"⟩ : MethodName)) rfl hown (mvT hZ (hw _ (List.mem_of_getElem? (i := 15) rfl))) (mvT hZ (hw _ (List.mem_of_getElem? (i := 16) rfl))) (mvT hZ (hw _ (List.mem_of_getElem? (i := 17) rfl))) (by decide) (backOf (W := 1) (own_r2 l Z a0 hw [] ob sa ex n h0 n0 Z0 hz hn E_ob F_ob_what F_ob_ids F_ob_size F_ob_table F_ob_shift ge_ob) hZ (hw _ (List.mem_of_getElem? (i := 17) rfl)) (hw _ (List.mem_of_getElem? (i := 6) rfl)) (by decide) (by decide)) (g := (mkF m 43 #[.val (.int e_), .val (.long ax), .second, .val (.int f_), .val (.int ex), .val (.long ((Int32.ofNat n).toInt64)), .second, .val (.int kq), .val (.int dt), .unset, .unset, .unset, .unset, .unset, .unset, .unset, .unset, .unset] [(.int ex), (.ref sa), (.ref ob), (.ref ob)])) rfl (by rw [hml]; rfl) (Steps.refl _) (a := ob) (argsL := [(.ref sa), (.int ex)]) (rest := [(.ref ob)]) (lenOf own_pd_1 rfl) rfl (by show 2 * 0 + _ ≤ _; exact Nat.le_of_eq rfl) (hb hby at_43) (fun _ _ => ⟨rfl, e0, (by decide : 3 + 2 ≤ _), (by decide : 29 + 6143 ≤ _)⟩)
  dsimp only [Pt.U, Pt.locs, Pt.cells, Pt.slots] at X131 l131 y131 z131 st131 hQ131
  subst l131 y131 z131
  obtain ⟨rfl, N131q, K131, aI131, aB131, ga131, gb131, za131, zb131, nab131, fids131, fsize131, ftable131, fshift131, fI131, fB131⟩ := hQ131
  have N131 := Fr.app N0 N131q
  have f132 := E_ob.keep K131
  have SZ131 : n0 ≤ T131.heap.size := Nat.le_trans Z0 K131.1
  have KC131 := K0.trans K131 (allS (Or.inl (List.mem_of_getElem? (i := 0) rfl)) all0)
  refine own_by (fun t k => st131.trans k) ?_
  have sz_aI131 : h0.size ≤ aI131 := Nat.le_trans K0.1 za131
  have ne_ob_aI131 : ob ≠ aI131 := Nat.ne_of_lt (Nat.lt_of_lt_of_le E_ob.lt za131)
  have sz_aB131 : h0.size ≤ aB131 := Nat.le_trans K0.1 zb131
  have ne_ob_aB131 : ob ≠ aB131 := Nat.ne_of_lt (Nat.lt_of_lt_of_le E_ob.lt zb131)
  show own_Go p e below T131 (mkF m 46 #[.val (.int e_), .val (.long ax), .second, .val (.int f_), .val (.int ex), .val (.long ((Int32.ofNat n).toInt64)), .second, .val (.int kq), .val (.int dt), .unset, .unset, .unset, .unset, .unset, .unset, .unset, .unset, .unset] [(.ref ob)]) _
  refine own_s_astore X131.here hx #[.val (.int e_), .val (.long ax), .second, .val (.int f_), .val (.int ex), .val (.long ((Int32.ofNat n).toInt64)), .second, .val (.int kq), .val (.int dt), .val (.ref ob), .unset, .unset, .unset, .unset, .unset, .unset, .unset, .unset] (hb hby at_46) rfl rfl ?_
  refine own_s_aload X131.here hx (hb hby at_48) rfl rfl ?_
  obtain ⟨cq133, kq133, q133a, q133b, q133c⟩ := isOf hZ rfl f132
  obtain ⟨_, _, ⟨T133, L133, k133, n133⟩, -, X133, ⟨Lc133, hQ133, l133, y133, z133⟩, st133⟩ := X131.virtualBack hx (y := (⟨"com/example/geodesic/geodesic/graph/IdIndex", "memoryBytes", "()J"⟩ : MethodName)) (z := (⟨"com/example/geodesic/geodesic/graph/IdIndex", "memoryBytes", "()J"⟩ : MethodName)) hown (mvT hZ (hw _ (List.mem_of_getElem? (i := 50) rfl))) (mvT hZ (hw _ (List.mem_of_getElem? (i := 51) rfl))) (notFace_of_selects (args := #[]) (mvT hZ (hw _ (List.mem_of_getElem? (i := 53) rfl)))) (mvT hZ (hw _ (List.mem_of_getElem? (i := 53) rfl))) (mvT hZ (hw _ (List.mem_of_getElem? (i := 52) rfl))) (by decide) (backOf (W := 0) (own_r8 l Z a0 hw [] ob aI131 aB131 n (own_tn n) (fun _ => .long (0 : Int64)) (fun _ => .int (-1 : Int32)) T131.heap n0 SZ131 f132 fids131 ftable131 fI131 fB131) hZ (hw _ (List.mem_of_getElem? (i := 54) rfl)) (hw _ (List.mem_of_getElem? (i := 6) rfl)) (by decide) (by decide)) q133a q133c (g := (mkF m 50 #[.val (.int e_), .val (.long ax), .second, .val (.int f_), .val (.int ex), .val (.long ((Int32.ofNat n).toInt64)), .second, .val (.int kq), .val (.int dt), .val (.ref ob), .unset, .unset, .unset, .unset, .unset, .unset, .unset, .unset] [(.ref ob)])) rfl (by rw [hml]; rfl) (Steps.refl _) (argsL := []) (rest := []) (lenOf own_pd_7 rfl) rfl (by show 2 * 0 + _ ≤ _; exact Nat.le_of_eq rfl) (hb hby at_50) (fun _ _ => ⟨rfl, rfl, (by decide : 5 + 0 ≤ _), (by decide : 6172 + 0 ≤ _)⟩)
  dsimp only [Pt.U, Pt.locs, Pt.cells, Pt.slots] at X133 l133 y133 z133 st133 hQ133
  subst l133 y133 z133
  obtain ⟨rfl, N133q, e133⟩ := hQ133
  have N133 := Fr.app N131 N133q
  refine own_by (fun t k => st133.trans k) ?_
  show own_Go p e below T133 (mkF m 53 #[.val (.int e_), .val (.long ax), .second, .val (.int f_), .val (.int ex), .val (.long ((Int32.ofNat n).toInt64)), .second, .val (.int kq), .val (.int dt), .val (.ref ob), .unset, .unset, .unset, .unset, .unset, .unset, .unset, .unset] [(.long (((8 : Int64) * ((Int32.ofNat n).toInt64)) + ((4 : Int64) * ((Int32.ofNat (own_tn n)).toInt64))))]) _
  refine own_s_lstore X133.here hx #[.val (.int e_), .val (.long ax), .second, .val (.int f_), .val (.int ex), .val (.long ((Int32.ofNat n).toInt64)), .second, .val (.int kq), .val (.int dt), .val (.ref ob), .val (.long (((8 : Int64) * ((Int32.ofNat n).toInt64)) + ((4 : Int64) * ((Int32.ofNat (own_tn n)).toInt64)))), .second, .unset, .unset, .unset, .unset, .unset, .unset] (hb hby at_53) rfl ?_
  refine own_s_lload X133.here hx (hb hby at_55) rfl ?_
  refine own_by (fun tq_ kq_ => X133.ldc2Long hx hown (mvT hZ (hw _ (List.mem_of_getElem? (i := 57) rfl))) (g := (mkF m 57 #[.val (.int e_), .val (.long ax), .second, .val (.int f_), .val (.int ex), .val (.long ((Int32.ofNat n).toInt64)), .second, .val (.int kq), .val (.int dt), .val (.ref ob), .val (.long (((8 : Int64) * ((Int32.ofNat n).toInt64)) + ((4 : Int64) * ((Int32.ofNat (own_tn n)).toInt64)))), .second, .unset, .unset, .unset, .unset, .unset, .unset] [(.long (((8 : Int64) * ((Int32.ofNat n).toInt64)) + ((4 : Int64) * ((Int32.ofNat (own_tn n)).toInt64))))])) rfl (hb hby at_57) tq_ kq_) ?_
  show own_Go p e below T133 (mkF m 60 #[.val (.int e_), .val (.long ax), .second, .val (.int f_), .val (.int ex), .val (.long ((Int32.ofNat n).toInt64)), .second, .val (.int kq), .val (.int dt), .val (.ref ob), .val (.long (((8 : Int64) * ((Int32.ofNat n).toInt64)) + ((4 : Int64) * ((Int32.ofNat (own_tn n)).toInt64)))), .second, .unset, .unset, .unset, .unset, .unset, .unset] [(.long (8 : Int64)), (.long (((8 : Int64) * ((Int32.ofNat n).toInt64)) + ((4 : Int64) * ((Int32.ofNat (own_tn n)).toInt64))))]) _
  refine own_s_lload X133.here hx (hb hby at_60) rfl ?_
  refine own_s_lmul X133.here hx (hb hby at_62) ?_
  refine own_s_lsub X133.here hx (hb hby at_63) ?_
  rw [show ((((8 : Int64) * ((Int32.ofNat n).toInt64)) + ((4 : Int64) * ((Int32.ofNat (own_tn n)).toInt64))) - ((8 : Int64) * ((Int32.ofNat n).toInt64))) = ((4 : Int64) * ((Int32.ofNat (own_tn n)).toInt64)) from own_dd _ _]
  show own_Go p e below T133 (mkF m 64 #[.val (.int e_), .val (.long ax), .second, .val (.int f_), .val (.int ex), .val (.long ((Int32.ofNat n).toInt64)), .second, .val (.int kq), .val (.int dt), .val (.ref ob), .val (.long (((8 : Int64) * ((Int32.ofNat n).toInt64)) + ((4 : Int64) * ((Int32.ofNat (own_tn n)).toInt64)))), .second, .unset, .unset, .unset, .unset, .unset, .unset] [(.long ((4 : Int64) * ((Int32.ofNat (own_tn n)).toInt64)))]) _
  refine own_s_lstore X133.here hx #[.val (.int e_), .val (.long ax), .second, .val (.int f_), .val (.int ex), .val (.long ((Int32.ofNat n).toInt64)), .second, .val (.int kq), .val (.int dt), .val (.ref ob), .val (.long (((8 : Int64) * ((Int32.ofNat n).toInt64)) + ((4 : Int64) * ((Int32.ofNat (own_tn n)).toInt64)))), .second, .val (.long ((4 : Int64) * ((Int32.ofNat (own_tn n)).toInt64))), .second, .unset, .unset, .unset, .unset] (hb hby at_64) rfl ?_
  refine own_s_lload X133.here hx (hb hby at_66) rfl ?_
  refine own_s_lconst X133.here hx (0 : Int64) (hb hby at_68) rfl ?_
  refine own_s_lcmp X133.here hx (hb hby at_69) ?_
  refine own_s_ifNo X133.here hx (hb hby at_70) (Jvm.Free.XT.ll_le_f hl.1) ?_
  refine own_s_lload X133.here hx (hb hby at_73) rfl ?_
  refine own_by (fun tq_ kq_ => X133.ldc2Long hx hown (mvT hZ (hw _ (List.mem_of_getElem? (i := 58) rfl))) (g := (mkF m 75 #[.val (.int e_), .val (.long ax), .second, .val (.int f_), .val (.int ex), .val (.long ((Int32.ofNat n).toInt64)), .second, .val (.int kq), .val (.int dt), .val (.ref ob), .val (.long (((8 : Int64) * ((Int32.ofNat n).toInt64)) + ((4 : Int64) * ((Int32.ofNat (own_tn n)).toInt64)))), .second, .val (.long ((4 : Int64) * ((Int32.ofNat (own_tn n)).toInt64))), .second, .unset, .unset, .unset, .unset] [(.long ((4 : Int64) * ((Int32.ofNat (own_tn n)).toInt64)))])) rfl (hb hby at_75) tq_ kq_) ?_
  show own_Go p e below T133 (mkF m 78 #[.val (.int e_), .val (.long ax), .second, .val (.int f_), .val (.int ex), .val (.long ((Int32.ofNat n).toInt64)), .second, .val (.int kq), .val (.int dt), .val (.ref ob), .val (.long (((8 : Int64) * ((Int32.ofNat n).toInt64)) + ((4 : Int64) * ((Int32.ofNat (own_tn n)).toInt64)))), .second, .val (.long ((4 : Int64) * ((Int32.ofNat (own_tn n)).toInt64))), .second, .unset, .unset, .unset, .unset] [(.long (3 : Int64)), (.long ((4 : Int64) * ((Int32.ofNat (own_tn n)).toInt64)))]) _
  refine own_s_land X133.here hx (hb hby at_78) ?_
  refine own_s_lconst X133.here hx (0 : Int64) (hb hby at_79) rfl ?_
  refine own_s_lcmp X133.here hx (hb hby at_80) ?_
  show own_Go p e below T133 (mkF m 81 #[.val (.int e_), .val (.long ax), .second, .val (.int f_), .val (.int ex), .val (.long ((Int32.ofNat n).toInt64)), .second, .val (.int kq), .val (.int dt), .val (.ref ob), .val (.long (((8 : Int64) * ((Int32.ofNat n).toInt64)) + ((4 : Int64) * ((Int32.ofNat (own_tn n)).toInt64)))), .second, .val (.long ((4 : Int64) * ((Int32.ofNat (own_tn n)).toInt64))), .second, .unset, .unset, .unset, .unset] [(.int (Jvm.Free.XT.cmpL (((4 : Int64) * ((Int32.ofNat (own_tn n)).toInt64)) &&& (3 : Int64)) (0 : Int64)))]) _
  refine own_s_ifYes X133.here hx 86 (hb hby at_81) (Jvm.Free.XT.ll_eq_t hl.2.1) (by decide) (by decide) ?_
  refine own_s_lload X133.here hx (hb hby at_86) rfl ?_
  refine own_by (fun tq_ kq_ => X133.ldc2Long hx hown (mvT hZ (hw _ (List.mem_of_getElem? (i := 59) rfl))) (g := (mkF m 88 #[.val (.int e_), .val (.long ax), .second, .val (.int f_), .val (.int ex), .val (.long ((Int32.ofNat n).toInt64)), .second, .val (.int kq), .val (.int dt), .val (.ref ob), .val (.long (((8 : Int64) * ((Int32.ofNat n).toInt64)) + ((4 : Int64) * ((Int32.ofNat (own_tn n)).toInt64)))), .second, .val (.long ((4 : Int64) * ((Int32.ofNat (own_tn n)).toInt64))), .second, .unset, .unset, .unset, .unset] [(.long ((4 : Int64) * ((Int32.ofNat (own_tn n)).toInt64)))])) rfl (hb hby at_88) tq_ kq_) ?_
  show own_Go p e below T133 (mkF m 91 #[.val (.int e_), .val (.long ax), .second, .val (.int f_), .val (.int ex), .val (.long ((Int32.ofNat n).toInt64)), .second, .val (.int kq), .val (.int dt), .val (.ref ob), .val (.long (((8 : Int64) * ((Int32.ofNat n).toInt64)) + ((4 : Int64) * ((Int32.ofNat (own_tn n)).toInt64)))), .second, .val (.long ((4 : Int64) * ((Int32.ofNat (own_tn n)).toInt64))), .second, .unset, .unset, .unset, .unset] [(.long (4 : Int64)), (.long ((4 : Int64) * ((Int32.ofNat (own_tn n)).toInt64)))]) _
  refine own_by (fun tq_ kq_ => XS.ldiv X133.here hx rfl (hb hby at_91) rfl (by decide) kq_) ?_
  show own_Go p e below T133 (mkF m 92 #[.val (.int e_), .val (.long ax), .second, .val (.int f_), .val (.int ex), .val (.long ((Int32.ofNat n).toInt64)), .second, .val (.int kq), .val (.int dt), .val (.ref ob), .val (.long (((8 : Int64) * ((Int32.ofNat n).toInt64)) + ((4 : Int64) * ((Int32.ofNat (own_tn n)).toInt64)))), .second, .val (.long ((4 : Int64) * ((Int32.ofNat (own_tn n)).toInt64))), .second, .unset, .unset, .unset, .unset] [(.long (((4 : Int64) * ((Int32.ofNat (own_tn n)).toInt64)) / (4 : Int64)))]) _
  rw [show (((4 : Int64) * ((Int32.ofNat (own_tn n)).toInt64)) / (4 : Int64)) = ((Int32.ofNat (own_tn n)).toInt64) from hl.2.2.1]
  show own_Go p e below T133 (mkF m 92 #[.val (.int e_), .val (.long ax), .second, .val (.int f_), .val (.int ex), .val (.long ((Int32.ofNat n).toInt64)), .second, .val (.int kq), .val (.int dt), .val (.ref ob), .val (.long (((8 : Int64) * ((Int32.ofNat n).toInt64)) + ((4 : Int64) * ((Int32.ofNat (own_tn n)).toInt64)))), .second, .val (.long ((4 : Int64) * ((Int32.ofNat (own_tn n)).toInt64))), .second, .unset, .unset, .unset, .unset] [(.long ((Int32.ofNat (own_tn n)).toInt64))]) _
  refine own_s_lstore X133.here hx #[.val (.int e_), .val (.long ax), .second, .val (.int f_), .val (.int ex), .val (.long ((Int32.ofNat n).toInt64)), .second, .val (.int kq), .val (.int dt), .val (.ref ob), .val (.long (((8 : Int64) * ((Int32.ofNat n).toInt64)) + ((4 : Int64) * ((Int32.ofNat (own_tn n)).toInt64)))), .second, .val (.long ((4 : Int64) * ((Int32.ofNat (own_tn n)).toInt64))), .second, .val (.long ((Int32.ofNat (own_tn n)).toInt64)), .second, .unset, .unset] (hb hby at_92) rfl ?_
  refine own_s_lload X133.here hx (hb hby at_94) rfl ?_
  refine own_s_lload X133.here hx (hb hby at_96) rfl ?_
  refine own_s_lconst X133.here hx (1 : Int64) (hb hby at_98) rfl ?_
  refine own_s_lsub X133.here hx (hb hby at_99) ?_
  refine own_s_land X133.here hx (hb hby at_100) ?_
  refine own_s_lconst X133.here hx (0 : Int64) (hb hby at_101) rfl ?_
  refine own_s_lcmp X133.here hx (hb hby at_102) ?_
  show own_Go p e below T133 (mkF m 103 #[.val (.int e_), .val (.long ax), .second, .val (.int f_), .val (.int ex), .val (.long ((Int32.ofNat n).toInt64)), .second, .val (.int kq), .val (.int dt), .val (.ref ob), .val (.long (((8 : Int64) * ((Int32.ofNat n).toInt64)) + ((4 : Int64) * ((Int32.ofNat (own_tn n)).toInt64)))), .second, .val (.long ((4 : Int64) * ((Int32.ofNat (own_tn n)).toInt64))), .second, .val (.long ((Int32.ofNat (own_tn n)).toInt64)), .second, .unset, .unset] [(.int (Jvm.Free.XT.cmpL (((Int32.ofNat (own_tn n)).toInt64) &&& (((Int32.ofNat (own_tn n)).toInt64) - (1 : Int64))) (0 : Int64)))]) _
  refine own_s_ifYes X133.here hx 108 (hb hby at_103) (Jvm.Free.XT.ll_eq_t hl.2.2.2.1) (by decide) (by decide) ?_
  refine own_s_lload X133.here hx (hb hby at_108) rfl ?_
  refine own_by (fun tq_ kq_ => X133.ldc2Long hx hown (mvT hZ (hw _ (List.mem_of_getElem? (i := 60) rfl))) (g := (mkF m 110 #[.val (.int e_), .val (.long ax), .second, .val (.int f_), .val (.int ex), .val (.long ((Int32.ofNat n).toInt64)), .second, .val (.int kq), .val (.int dt), .val (.ref ob), .val (.long (((8 : Int64) * ((Int32.ofNat n).toInt64)) + ((4 : Int64) * ((Int32.ofNat (own_tn n)).toInt64)))), .second, .val (.long ((4 : Int64) * ((Int32.ofNat (own_tn n)).toInt64))), .second, .val (.long ((Int32.ofNat (own_tn n)).toInt64)), .second, .unset, .unset] [(.long ((Int32.ofNat (own_tn n)).toInt64))])) rfl (hb hby at_110) tq_ kq_) ?_
  show own_Go p e below T133 (mkF m 113 #[.val (.int e_), .val (.long ax), .second, .val (.int f_), .val (.int ex), .val (.long ((Int32.ofNat n).toInt64)), .second, .val (.int kq), .val (.int dt), .val (.ref ob), .val (.long (((8 : Int64) * ((Int32.ofNat n).toInt64)) + ((4 : Int64) * ((Int32.ofNat (own_tn n)).toInt64)))), .second, .val (.long ((4 : Int64) * ((Int32.ofNat (own_tn n)).toInt64))), .second, .val (.long ((Int32.ofNat (own_tn n)).toInt64)), .second, .unset, .unset] [(.long (2 : Int64)), (.long ((Int32.ofNat (own_tn n)).toInt64))]) _
  refine own_s_lload X133.here hx (hb hby at_113) rfl ?_
  refine own_s_lmul X133.here hx (hb hby at_115) ?_
  refine own_s_lcmp X133.here hx (hb hby at_116) ?_
  refine own_s_ifNo X133.here hx (hb hby at_117) (Jvm.Free.XT.ll_lt_f hl.2.2.2.2.1) ?_
  refine own_s_lload X133.here hx (hb hby at_120) rfl ?_
  refine own_by (fun tq_ kq_ => X133.ldc2Long hx hown (mvT hZ (hw _ (List.mem_of_getElem? (i := 59) rfl))) (g := (mkF m 122 #[.val (.int e_), .val (.long ax), .second, .val (.int f_), .val (.int ex), .val (.long ((Int32.ofNat n).toInt64)), .second, .val (.int kq), .val (.int dt), .val (.ref ob), .val (.long (((8 : Int64) * ((Int32.ofNat n).toInt64)) + ((4 : Int64) * ((Int32.ofNat (own_tn n)).toInt64)))), .second, .val (.long ((4 : Int64) * ((Int32.ofNat (own_tn n)).toInt64))), .second, .val (.long ((Int32.ofNat (own_tn n)).toInt64)), .second, .unset, .unset] [(.long ((Int32.ofNat (own_tn n)).toInt64))])) rfl (hb hby at_122) tq_ kq_) ?_
  show own_Go p e below T133 (mkF m 125 #[.val (.int e_), .val (.long ax), .second, .val (.int f_), .val (.int ex), .val (.long ((Int32.ofNat n).toInt64)), .second, .val (.int kq), .val (.int dt), .val (.ref ob), .val (.long (((8 : Int64) * ((Int32.ofNat n).toInt64)) + ((4 : Int64) * ((Int32.ofNat (own_tn n)).toInt64)))), .second, .val (.long ((4 : Int64) * ((Int32.ofNat (own_tn n)).toInt64))), .second, .val (.long ((Int32.ofNat (own_tn n)).toInt64)), .second, .unset, .unset] [(.long (4 : Int64)), (.long ((Int32.ofNat (own_tn n)).toInt64))]) _
  refine own_s_lload X133.here hx (hb hby at_125) rfl ?_
  refine own_s_lmul X133.here hx (hb hby at_127) ?_
  refine own_s_lcmp X133.here hx (hb hby at_128) ?_
  show own_Go p e below T133 (mkF m 129 #[.val (.int e_), .val (.long ax), .second, .val (.int f_), .val (.int ex), .val (.long ((Int32.ofNat n).toInt64)), .second, .val (.int kq), .val (.int dt), .val (.ref ob), .val (.long (((8 : Int64) * ((Int32.ofNat n).toInt64)) + ((4 : Int64) * ((Int32.ofNat (own_tn n)).toInt64)))), .second, .val (.long ((4 : Int64) * ((Int32.ofNat (own_tn n)).toInt64))), .second, .val (.long ((Int32.ofNat (own_tn n)).toInt64)), .second, .unset, .unset] [(.int (Jvm.Free.XT.cmpL ((Int32.ofNat (own_tn n)).toInt64) ((4 : Int64) * ((Int32.ofNat n).toInt64))))]) _
  refine own_s_ifYes X133.here hx 134 (hb hby at_129) (Jvm.Free.XT.ll_lt_t hl.2.2.2.2.2) (by decide) (by decide) ?_
  have hax0 : ax = ax + Int64.ofNat 0 := (Int64.add_zero ax).symm
  have hax1 : (ax + (1 : Int64)) = ax + Int64.ofNat 1 := rfl
  have hax2 : (ax + (2 : Int64)) = ax + Int64.ofNat 2 := rfl
  rcases hkk with rfl | rfl | rfl | rfl
  ·
    show own_Go p e below T133 (mkF m 134 #[.val (.int e_), .val (.long ax), .second, .val (.int f_), .val (.int ex), .val (.long ((Int32.ofNat n).toInt64)), .second, .val (.int (0 : Int32)), .val (.int dt), .val (.ref ob), .val (.long (((8 : Int64) * ((Int32.ofNat n).toInt64)) + ((4 : Int64) * ((Int32.ofNat (own_tn n)).toInt64)))), .second, .val (.long ((4 : Int64) * ((Int32.ofNat (own_tn n)).toInt64))), .second, .val (.long ((Int32.ofNat (own_tn n)).toInt64)), .second, .unset, .unset] []) _
    refine own_s_iload X133.here hx (hb hby at_134) rfl ?_
    refine own_s_iconst X133.here hx (1 : Int32) (hb hby at_136) rfl ?_
    show own_Go p e below T133 (mkF m 137 #[.val (.int e_), .val (.long ax), .second, .val (.int f_), .val (.int ex), .val (.long ((Int32.ofNat n).toInt64)), .second, .val (.int (0 : Int32)), .val (.int dt), .val (.ref ob), .val (.long (((8 : Int64) * ((Int32.ofNat n).toInt64)) + ((4 : Int64) * ((Int32.ofNat (own_tn n)).toInt64)))), .second, .val (.long ((4 : Int64) * ((Int32.ofNat (own_tn n)).toInt64))), .second, .val (.long ((Int32.ofNat (own_tn n)).toInt64)), .second, .unset, .unset] [(.int (1 : Int32)), (.int (0 : Int32))]) _
    refine own_s_icmpYes X133.here hx 147 (hb hby at_137) (Jvm.Free.XT.ii_lt_t ((by decide))) (by decide) (by decide) ?_
    refine own_s_iload X133.here hx (hb hby at_147) rfl ?_
    refine own_s_iconst X133.here hx (2 : Int32) (hb hby at_149) rfl ?_
    show own_Go p e below T133 (mkF m 150 #[.val (.int e_), .val (.long ax), .second, .val (.int f_), .val (.int ex), .val (.long ((Int32.ofNat n).toInt64)), .second, .val (.int (0 : Int32)), .val (.int dt), .val (.ref ob), .val (.long (((8 : Int64) * ((Int32.ofNat n).toInt64)) + ((4 : Int64) * ((Int32.ofNat (own_tn n)).toInt64)))), .second, .val (.long ((4 : Int64) * ((Int32.ofNat (own_tn n)).toInt64))), .second, .val (.long ((Int32.ofNat (own_tn n)).toInt64)), .second, .unset, .unset] [(.int (2 : Int32)), (.int (0 : Int32))]) _
    refine own_s_icmpYes X133.here hx 162 (hb hby at_150) (Jvm.Free.XT.ii_lt_t ((by decide))) (by decide) (by decide) ?_
    refine own_s_iload X133.here hx (hb hby at_162) rfl ?_
    refine own_s_iconst X133.here hx (3 : Int32) (hb hby at_164) rfl ?_
    show own_Go p e below T133 (mkF m 165 #[.val (.int e_), .val (.long ax), .second, .val (.int f_), .val (.int ex), .val (.long ((Int32.ofNat n).toInt64)), .second, .val (.int (0 : Int32)), .val (.int dt), .val (.ref ob), .val (.long (((8 : Int64) * ((Int32.ofNat n).toInt64)) + ((4 : Int64) * ((Int32.ofNat (own_tn n)).toInt64)))), .second, .val (.long ((4 : Int64) * ((Int32.ofNat (own_tn n)).toInt64))), .second, .val (.long ((Int32.ofNat (own_tn n)).toInt64)), .second, .unset, .unset] [(.int (3 : Int32)), (.int (0 : Int32))]) _
    refine own_s_icmpYes X133.here hx 179 (hb hby at_165) (Jvm.Free.XT.ii_lt_t ((by decide))) (by decide) (by decide) ?_
    exact own_p179 hx hZ hw hby hml hown hnm hret hlk  e_ f_ ex dt ax n 0 kz ob aI131 aB131 (fun _ => (0 : Int64)) (fun i => .int ((fun _ => (-1 : Int32)) i)) X133 e133 N133 SZ131 (Nat.le_trans hkz KC131.1) hn (by decide) f132 fids131 fsize131 ftable131 ge_ob fI131 fB131 ne_ob_aI131 ne_ob_aB131
  ·
    show own_Go p e below T133 (mkF m 134 #[.val (.int e_), .val (.long ax), .second, .val (.int f_), .val (.int ex), .val (.long ((Int32.ofNat n).toInt64)), .second, .val (.int (1 : Int32)), .val (.int dt), .val (.ref ob), .val (.long (((8 : Int64) * ((Int32.ofNat n).toInt64)) + ((4 : Int64) * ((Int32.ofNat (own_tn n)).toInt64)))), .second, .val (.long ((4 : Int64) * ((Int32.ofNat (own_tn n)).toInt64))), .second, .val (.long ((Int32.ofNat (own_tn n)).toInt64)), .second, .unset, .unset] []) _
    refine own_s_iload X133.here hx (hb hby at_134) rfl ?_
    refine own_s_iconst X133.here hx (1 : Int32) (hb hby at_136) rfl ?_
    refine own_s_icmpNo X133.here hx (hb hby at_137) (Jvm.Free.XT.ii_lt_f ((by decide))) ?_
    refine own_s_aload X133.here hx (hb hby at_140) rfl rfl ?_
    refine own_s_lloadN X133.here hx (hb hby at_142) rfl ?_
    obtain ⟨cq134, kq134, q134a, q134b, q134c⟩ := isOf hZ e133 f132
    obtain ⟨_, _, ⟨T134, L134, k134, n134⟩, -, X134, ⟨Lc134, hQ134, l134, y134, z134⟩, st134⟩ := X133.virtualBack hx (y := (⟨"com/example/geodesic/geodesic/graph/IdIndex", "add", "(J)I"⟩ : MethodName)) (z := (⟨"com/example/geodesic/geodesic/graph/IdIndex", "add", "(J)I"⟩ : MethodName)) hown (mvT hZ (hw _ (List.mem_of_getElem? (i := 61) rfl))) (mvT hZ (hw _ (List.mem_of_getElem? (i := 62) rfl))) (notFace_of_selects (args := #[]) (mvT hZ (hw _ (List.mem_of_getElem? (i := 64) rfl)))) (mvT hZ (hw _ (List.mem_of_getElem? (i := 64) rfl))) (mvT hZ (hw _ (List.mem_of_getElem? (i := 63) rfl))) (by decide) (backOf (W := 0) (own_r9 l Z a0 hw [] ob ax aI131 aB131 (own_bn n) n (fun _ => (-1 : Int32)) (fun _ => (0 : Int64)) 0 ax T131.heap n0 SZ131 (own_bnh hn).1 (by decide) hn hax0 (own_T0 _ _ _) f132 fids131 fsize131 ftable131 fshift131 ge_ob fI131 ga131 fB131 gb131 ne_ob_aI131 ne_ob_aB131 nab131) hZ (hw _ (List.mem_of_getElem? (i := 65) rfl)) (hw _ (List.mem_of_getElem? (i := 6) rfl)) (by decide) (by decide)) q134a q134c (g := (mkF m 143 #[.val (.int e_), .val (.long ax), .second, .val (.int f_), .val (.int ex), .val (.long ((Int32.ofNat n).toInt64)), .second, .val (.int (1 : Int32)), .val (.int dt), .val (.ref ob), .val (.long (((8 : Int64) * ((Int32.ofNat n).toInt64)) + ((4 : Int64) * ((Int32.ofNat (own_tn n)).toInt64)))), .second, .val (.long ((4 : Int64) * ((Int32.ofNat (own_tn n)).toInt64))), .second, .val (.long ((Int32.ofNat (own_tn n)).toInt64)), .second, .unset, .unset] [(.long ax), (.ref ob)])) rfl (by rw [hml]; rfl) (Steps.refl _) (argsL := [(.long ax)]) (rest := []) (lenOf own_pd_4 rfl) rfl (by show 2 * 0 + _ ≤ _; exact Nat.le_of_eq rfl) (hb hby at_143) (fun _ _ => ⟨rfl, e133, (by decide : 5 + 0 ≤ _), (by decide : 6172 + 0 ≤ _)⟩)
    dsimp only [Pt.U, Pt.locs, Pt.cells, Pt.slots] at X134 l134 y134 z134 st134 hQ134
    subst l134 y134 z134
    obtain ⟨tb134, fi134, rfl, N134q, K134, fids134, fsize134, ftable134, fshift134, fI134, fB134, hT134⟩ := hQ134
    have N134 := Fr.app N133 N134q
    have f135 := f132.keep K134
    have SZ134 : n0 ≤ T134.heap.size := Nat.le_trans SZ131 K134.1
    have KC134 := KC131.trans K134 (allS (Or.inl (List.mem_of_getElem? (i := 0) rfl)) (allS (Or.inr sz_aI131) (allS (Or.inr sz_aB131) all0)))
    refine own_by (fun t k => st134.trans k) ?_
    show own_Go p e below T134 (mkF m 146 #[.val (.int e_), .val (.long ax), .second, .val (.int f_), .val (.int ex), .val (.long ((Int32.ofNat n).toInt64)), .second, .val (.int (1 : Int32)), .val (.int dt), .val (.ref ob), .val (.long (((8 : Int64) * ((Int32.ofNat n).toInt64)) + ((4 : Int64) * ((Int32.ofNat (own_tn n)).toInt64)))), .second, .val (.long ((4 : Int64) * ((Int32.ofNat (own_tn n)).toInt64))), .second, .val (.long ((Int32.ofNat (own_tn n)).toInt64)), .second, .unset, .unset] [(.int (Int32.ofNat 0))]) _
    refine own_s_pop X134.here hx (hb hby at_146) rfl ?_
    refine own_s_iload X134.here hx (hb hby at_147) rfl ?_
    refine own_s_iconst X134.here hx (2 : Int32) (hb hby at_149) rfl ?_
    show own_Go p e below T134 (mkF m 150 #[.val (.int e_), .val (.long ax), .second, .val (.int f_), .val (.int ex), .val (.long ((Int32.ofNat n).toInt64)), .second, .val (.int (1 : Int32)), .val (.int dt), .val (.ref ob), .val (.long (((8 : Int64) * ((Int32.ofNat n).toInt64)) + ((4 : Int64) * ((Int32.ofNat (own_tn n)).toInt64)))), .second, .val (.long ((4 : Int64) * ((Int32.ofNat (own_tn n)).toInt64))), .second, .val (.long ((Int32.ofNat (own_tn n)).toInt64)), .second, .unset, .unset] [(.int (2 : Int32)), (.int (1 : Int32))]) _
    refine own_s_icmpYes X134.here hx 162 (hb hby at_150) (Jvm.Free.XT.ii_lt_t ((by decide))) (by decide) (by decide) ?_
    refine own_s_iload X134.here hx (hb hby at_162) rfl ?_
    refine own_s_iconst X134.here hx (3 : Int32) (hb hby at_164) rfl ?_
    show own_Go p e below T134 (mkF m 165 #[.val (.int e_), .val (.long ax), .second, .val (.int f_), .val (.int ex), .val (.long ((Int32.ofNat n).toInt64)), .second, .val (.int (1 : Int32)), .val (.int dt), .val (.ref ob), .val (.long (((8 : Int64) * ((Int32.ofNat n).toInt64)) + ((4 : Int64) * ((Int32.ofNat (own_tn n)).toInt64)))), .second, .val (.long ((4 : Int64) * ((Int32.ofNat (own_tn n)).toInt64))), .second, .val (.long ((Int32.ofNat (own_tn n)).toInt64)), .second, .unset, .unset] [(.int (3 : Int32)), (.int (1 : Int32))]) _
    refine own_s_icmpYes X134.here hx 179 (hb hby at_165) (Jvm.Free.XT.ii_lt_t ((by decide))) (by decide) (by decide) ?_
    exact own_p179 hx hZ hw hby hml hown hnm hret hlk  e_ f_ ex dt ax n 1 kz ob aI131 aB131 fi134 (fun i => .int (tb134 i)) X134 rfl N134 SZ134 (Nat.le_trans hkz KC134.1) hn (by decide) f135 fids134 fsize134 ftable134 ge_ob fI134 fB134 ne_ob_aI131 ne_ob_aB131
  ·
    show own_Go p e below T133 (mkF m 134 #[.val (.int e_), .val (.long ax), .second, .val (.int f_), .val (.int ex), .val (.long ((Int32.ofNat n).toInt64)), .second, .val (.int (2 : Int32)), .val (.int dt), .val (.ref ob), .val (.long (((8 : Int64) * ((Int32.ofNat n).toInt64)) + ((4 : Int64) * ((Int32.ofNat (own_tn n)).toInt64)))), .second, .val (.long ((4 : Int64) * ((Int32.ofNat (own_tn n)).toInt64))), .second, .val (.long ((Int32.ofNat (own_tn n)).toInt64)), .second, .unset, .unset] []) _
    refine own_s_iload X133.here hx (hb hby at_134) rfl ?_
    refine own_s_iconst X133.here hx (1 : Int32) (hb hby at_136) rfl ?_
    refine own_s_icmpNo X133.here hx (hb hby at_137) (Jvm.Free.XT.ii_lt_f ((by decide))) ?_
    refine own_s_aload X133.here hx (hb hby at_140) rfl rfl ?_
    refine own_s_lloadN X133.here hx (hb hby at_142) rfl ?_
    obtain ⟨cq136, kq136, q136a, q136b, q136c⟩ := isOf hZ e133 f132
    obtain ⟨_, _, ⟨T136, L136, k136, n136⟩, -, X136, ⟨Lc136, hQ136, l136, y136, z136⟩, st136⟩ := X133.virtualBack hx (y := (⟨"com/example/geodesic/geodesic/graph/IdIndex", "add", "(J)I"⟩ : MethodName)) (z := (⟨"com/example/geodesic/geodesic/graph/IdIndex", "add", "(J)I"⟩ : MethodName)) hown (mvT hZ (hw _ (List.mem_of_getElem? (i := 61) rfl))) (mvT hZ (hw _ (List.mem_of_getElem? (i := 62) rfl))) (notFace_of_selects (args := #[]) (mvT hZ (hw _ (List.mem_of_getElem? (i := 64) rfl)))) (mvT hZ (hw _ (List.mem_of_getElem? (i := 64) rfl))) (mvT hZ (hw _ (List.mem_of_getElem? (i := 63) rfl))) (by decide) (backOf (W := 0) (own_r9 l Z a0 hw [] ob ax aI131 aB131 (own_bn n) n (fun _ => (-1 : Int32)) (fun _ => (0 : Int64)) 0 ax T131.heap n0 SZ131 (own_bnh hn).1 (by decide) hn hax0 (own_T0 _ _ _) f132 fids131 fsize131 ftable131 fshift131 ge_ob fI131 ga131 fB131 gb131 ne_ob_aI131 ne_ob_aB131 nab131) hZ (hw _ (List.mem_of_getElem? (i := 65) rfl)) (hw _ (List.mem_of_getElem? (i := 6) rfl)) (by decide) (by decide)) q136a q136c (g := (mkF m 143 #[.val (.int e_), .val (.long ax), .second, .val (.int f_), .val (.int ex), .val (.long ((Int32.ofNat n).toInt64)), .second, .val (.int (2 : Int32)), .val (.int dt), .val (.ref ob), .val (.long (((8 : Int64) * ((Int32.ofNat n).toInt64)) + ((4 : Int64) * ((Int32.ofNat (own_tn n)).toInt64)))), .second, .val (.long ((4 : Int64) * ((Int32.ofNat (own_tn n)).toInt64))), .second, .val (.long ((Int32.ofNat (own_tn n)).toInt64)), .second, .unset, .unset] [(.long ax), (.ref ob)])) rfl (by rw [hml]; rfl) (Steps.refl _) (argsL := [(.long ax)]) (rest := []) (lenOf own_pd_4 rfl) rfl (by show 2 * 0 + _ ≤ _; exact Nat.le_of_eq rfl) (hb hby at_143) (fun _ _ => ⟨rfl, e133, (by decide : 5 + 0 ≤ _), (by decide : 6172 + 0 ≤ _)⟩)
    dsimp only [Pt.U, Pt.locs, Pt.cells, Pt.slots] at X136 l136 y136 z136 st136 hQ136
    subst l136 y136 z136
    obtain ⟨tb136, fi136, rfl, N136q, K136, fids136, fsize136, ftable136, fshift136, fI136, fB136, hT136⟩ := hQ136
    have N136 := Fr.app N133 N136q
    have f137 := f132.keep K136
    have SZ136 : n0 ≤ T136.heap.size := Nat.le_trans SZ131 K136.1
    have KC136 := KC131.trans K136 (allS (Or.inl (List.mem_of_getElem? (i := 0) rfl)) (allS (Or.inr sz_aI131) (allS (Or.inr sz_aB131) all0)))
    refine own_by (fun t k => st136.trans k) ?_
    show own_Go p e below T136 (mkF m 146 #[.val (.int e_), .val (.long ax), .second, .val (.int f_), .val (.int ex), .val (.long ((Int32.ofNat n).toInt64)), .second, .val (.int (2 : Int32)), .val (.int dt), .val (.ref ob), .val (.long (((8 : Int64) * ((Int32.ofNat n).toInt64)) + ((4 : Int64) * ((Int32.ofNat (own_tn n)).toInt64)))), .second, .val (.long ((4 : Int64) * ((Int32.ofNat (own_tn n)).toInt64))), .second, .val (.long ((Int32.ofNat (own_tn n)).toInt64)), .second, .unset, .unset] [(.int (Int32.ofNat 0))]) _
    refine own_s_pop X136.here hx (hb hby at_146) rfl ?_
    refine own_s_iload X136.here hx (hb hby at_147) rfl ?_
    refine own_s_iconst X136.here hx (2 : Int32) (hb hby at_149) rfl ?_
    refine own_s_icmpNo X136.here hx (hb hby at_150) (Jvm.Free.XT.ii_lt_f ((by decide))) ?_
    refine own_s_aload X136.here hx (hb hby at_153) rfl rfl ?_
    refine own_s_lloadN X136.here hx (hb hby at_155) rfl ?_
    refine own_s_lconst X136.here hx (1 : Int64) (hb hby at_156) rfl ?_
    refine own_s_ladd X136.here hx (hb hby at_157) ?_
    obtain ⟨cq138, kq138, q138a, q138b, q138c⟩ := isOf hZ rfl f137
    obtain ⟨_, _, ⟨T138, L138, k138, n138⟩, -, X138, ⟨Lc138, hQ138, l138, y138, z138⟩, st138⟩ := X136.virtualBack hx (y := (⟨"com/example/geodesic/geodesic/graph/IdIndex", "add", "(J)I"⟩ : MethodName)) (z := (⟨"com/example/geodesic/geodesic/graph/IdIndex", "add", "(J)I"⟩ : MethodName)) hown (mvT hZ (hw _ (List.mem_of_getElem? (i := 61) rfl))) (mvT hZ (hw _ (List.mem_of_getElem? (i := 62) rfl))) (notFace_of_selects (args := #[]) (mvT hZ (hw _ (List.mem_of_getElem? (i := 64) rfl)))) (mvT hZ (hw _ (List.mem_of_getElem? (i := 64) rfl))) (mvT hZ (hw _ (List.mem_of_getElem? (i := 63) rfl))) (by decide) (backOf (W := 0) (own_r9 l Z a0 hw [] ob (ax + (1 : Int64)) aI131 aB131 (own_bn n) n tb136 fi136 1 ax T136.heap n0 SZ136 (own_bnh hn).1 (by decide) hn hax1 hT136 f137 fids136 fsize136 ftable136 fshift136 ge_ob fI136 ga131 fB136 gb131 ne_ob_aI131 ne_ob_aB131 nab131) hZ (hw _ (List.mem_of_getElem? (i := 65) rfl)) (hw _ (List.mem_of_getElem? (i := 6) rfl)) (by decide) (by decide)) q138a q138c (g := (mkF m 158 #[.val (.int e_), .val (.long ax), .second, .val (.int f_), .val (.int ex), .val (.long ((Int32.ofNat n).toInt64)), .second, .val (.int (2 : Int32)), .val (.int dt), .val (.ref ob), .val (.long (((8 : Int64) * ((Int32.ofNat n).toInt64)) + ((4 : Int64) * ((Int32.ofNat (own_tn n)).toInt64)))), .second, .val (.long ((4 : Int64) * ((Int32.ofNat (own_tn n)).toInt64))), .second, .val (.long ((Int32.ofNat (own_tn n)).toInt64)), .second, .unset, .unset] [(.long (ax + (1 : Int64))), (.ref ob)])) rfl (by rw [hml]; rfl) (Steps.refl _) (argsL := [(.long (ax + (1 : Int64)))]) (rest := []) (lenOf own_pd_4 rfl) rfl (by show 2 * 0 + _ ≤ _; exact Nat.le_of_eq rfl) (hb hby at_158) (fun _ _ => ⟨rfl, rfl, (by decide : 5 + 0 ≤ _), (by decide : 6172 + 0 ≤ _)⟩)
    dsimp only [Pt.U, Pt.locs, Pt.cells, Pt.slots] at X138 l138 y138 z138 st138 hQ138
    subst l138 y138 z138
    obtain ⟨tb138, fi138, rfl, N138q, K138, fids138, fsize138, ftable138, fshift138, fI138, fB138, hT138⟩ := hQ138
    have N138 := Fr.app N136 N138q
    have f139 := f137.keep K138
    have SZ138 : n0 ≤ T138.heap.size := Nat.le_trans SZ136 K138.1
    have KC138 := KC136.trans K138 (allS (Or.inl (List.mem_of_getElem? (i := 0) rfl)) (allS (Or.inr sz_aI131) (allS (Or.inr sz_aB131) all0)))
    refine own_by (fun t k => st138.trans k) ?_
    show own_Go p e below T138 (mkF m 161 #[.val (.int e_), .val (.long ax), .second, .val (.int f_), .val (.int ex), .val (.long ((Int32.ofNat n).toInt64)), .second, .val (.int (2 : Int32)), .val (.int dt), .val (.ref ob), .val (.long (((8 : Int64) * ((Int32.ofNat n).toInt64)) + ((4 : Int64) * ((Int32.ofNat (own_tn n)).toInt64)))), .second, .val (.long ((4 : Int64) * ((Int32.ofNat (own_tn n)).toInt64))), .second, .val (.long ((Int32.ofNat (own_tn n)).toInt64)), .second, .unset, .unset] [(.int (Int32.ofNat 1))]) _
    refine own_s_pop X138.here hx (hb hby at_161) rfl ?_
    refine own_s_iload X138.here hx (hb hby at_162) rfl ?_
    refine own_s_iconst X138.here hx (3 : Int32) (hb hby at_164) rfl ?_
    show own_Go p e below T138 (mkF m 165 #[.val (.int e_), .val (.long ax), .second, .val (.int f_), .val (.int ex), .val (.long ((Int32.ofNat n).toInt64)), .second, .val (.int (2 : Int32)), .val (.int dt), .val (.ref ob), .val (.long (((8 : Int64) * ((Int32.ofNat n).toInt64)) + ((4 : Int64) * ((Int32.ofNat (own_tn n)).toInt64)))), .second, .val (.long ((4 : Int64) * ((Int32.ofNat (own_tn n)).toInt64))), .second, .val (.long ((Int32.ofNat (own_tn n)).toInt64)), .second, .unset, .unset] [(.int (3 : Int32)), (.int (2 : Int32))]) _
    refine own_s_icmpYes X138.here hx 179 (hb hby at_165) (Jvm.Free.XT.ii_lt_t ((by decide))) (by decide) (by decide) ?_
    exact own_p179 hx hZ hw hby hml hown hnm hret hlk  e_ f_ ex dt ax n 2 kz ob aI131 aB131 fi138 (fun i => .int (tb138 i)) X138 rfl N138 SZ138 (Nat.le_trans hkz KC138.1) hn (by decide) f139 fids138 fsize138 ftable138 ge_ob fI138 fB138 ne_ob_aI131 ne_ob_aB131
  ·
    show own_Go p e below T133 (mkF m 134 #[.val (.int e_), .val (.long ax), .second, .val (.int f_), .val (.int ex), .val (.long ((Int32.ofNat n).toInt64)), .second, .val (.int (3 : Int32)), .val (.int dt), .val (.ref ob), .val (.long (((8 : Int64) * ((Int32.ofNat n).toInt64)) + ((4 : Int64) * ((Int32.ofNat (own_tn n)).toInt64)))), .second, .val (.long ((4 : Int64) * ((Int32.ofNat (own_tn n)).toInt64))), .second, .val (.long ((Int32.ofNat (own_tn n)).toInt64)), .second, .unset, .unset] []) _
    refine own_s_iload X133.here hx (hb hby at_134) rfl ?_
    refine own_s_iconst X133.here hx (1 : Int32) (hb hby at_136) rfl ?_
    refine own_s_icmpNo X133.here hx (hb hby at_137) (Jvm.Free.XT.ii_lt_f ((by decide))) ?_
    refine own_s_aload X133.here hx (hb hby at_140) rfl rfl ?_
    refine own_s_lloadN X133.here hx (hb hby at_142) rfl ?_
    obtain ⟨cq140, kq140, q140a, q140b, q140c⟩ := isOf hZ e133 f132
    obtain ⟨_, _, ⟨T140, L140, k140, n140⟩, -, X140, ⟨Lc140, hQ140, l140, y140, z140⟩, st140⟩ := X133.virtualBack hx (y := (⟨"com/example/geodesic/geodesic/graph/IdIndex", "add", "(J)I"⟩ : MethodName)) (z := (⟨"com/example/geodesic/geodesic/graph/IdIndex", "add", "(J)I"⟩ : MethodName)) hown (mvT hZ (hw _ (List.mem_of_getElem? (i := 61) rfl))) (mvT hZ (hw _ (List.mem_of_getElem? (i := 62) rfl))) (notFace_of_selects (args := #[]) (mvT hZ (hw _ (List.mem_of_getElem? (i := 64) rfl)))) (mvT hZ (hw _ (List.mem_of_getElem? (i := 64) rfl))) (mvT hZ (hw _ (List.mem_of_getElem? (i := 63) rfl))) (by decide) (backOf (W := 0) (own_r9 l Z a0 hw [] ob ax aI131 aB131 (own_bn n) n (fun _ => (-1 : Int32)) (fun _ => (0 : Int64)) 0 ax T131.heap n0 SZ131 (own_bnh hn).1 (by decide) hn hax0 (own_T0 _ _ _) f132 fids131 fsize131 ftable131 fshift131 ge_ob fI131 ga131 fB131 gb131 ne_ob_aI131 ne_ob_aB131 nab131) hZ (hw _ (List.mem_of_getElem? (i := 65) rfl)) (hw _ (List.mem_of_getElem? (i := 6) rfl)) (by decide) (by decide)) q140a q140c (g := (mkF m 143 #[.val (.int e_), .val (.long ax), .second, .val (.int f_), .val (.int ex), .val (.long ((Int32.ofNat n).toInt64)), .second, .val (.int (3 : Int32)), .val (.int dt), .val (.ref ob), .val (.long (((8 : Int64) * ((Int32.ofNat n).toInt64)) + ((4 : Int64) * ((Int32.ofNat (own_tn n)).toInt64)))), .second, .val (.long ((4 : Int64) * ((Int32.ofNat (own_tn n)).toInt64))), .second, .val (.long ((Int32.ofNat (own_tn n)).toInt64)), .second, .unset, .unset] [(.long ax), (.ref ob)])) rfl (by rw [hml]; rfl) (Steps.refl _) (argsL := [(.long ax)]) (rest := []) (lenOf own_pd_4 rfl) rfl (by show 2 * 0 + _ ≤ _; exact Nat.le_of_eq rfl) (hb hby at_143) (fun _ _ => ⟨rfl, e133, (by decide : 5 + 0 ≤ _), (by decide : 6172 + 0 ≤ _)⟩)
    dsimp only [Pt.U, Pt.locs, Pt.cells, Pt.slots] at X140 l140 y140 z140 st140 hQ140
    subst l140 y140 z140
    obtain ⟨tb140, fi140, rfl, N140q, K140, fids140, fsize140, ftable140, fshift140, fI140, fB140, hT140⟩ := hQ140
    have N140 := Fr.app N133 N140q
    have f141 := f132.keep K140
    have SZ140 : n0 ≤ T140.heap.size := Nat.le_trans SZ131 K140.1
    have KC140 := KC131.trans K140 (allS (Or.inl (List.mem_of_getElem? (i := 0) rfl)) (allS (Or.inr sz_aI131) (allS (Or.inr sz_aB131) all0)))
    refine own_by (fun t k => st140.trans k) ?_
    show own_Go p e below T140 (mkF m 146 #[.val (.int e_), .val (.long ax), .second, .val (.int f_), .val (.int ex), .val (.long ((Int32.ofNat n).toInt64)), .second, .val (.int (3 : Int32)), .val (.int dt), .val (.ref ob), .val (.long (((8 : Int64) * ((Int32.ofNat n).toInt64)) + ((4 : Int64) * ((Int32.ofNat (own_tn n)).toInt64)))), .second, .val (.long ((4 : Int64) * ((Int32.ofNat (own_tn n)).toInt64))), .second, .val (.long ((Int32.ofNat (own_tn n)).toInt64)), .second, .unset, .unset] [(.int (Int32.ofNat 0))]) _
    refine own_s_pop X140.here hx (hb hby at_146) rfl ?_
    refine own_s_iload X140.here hx (hb hby at_147) rfl ?_
    refine own_s_iconst X140.here hx (2 : Int32) (hb hby at_149) rfl ?_
    refine own_s_icmpNo X140.here hx (hb hby at_150) (Jvm.Free.XT.ii_lt_f ((by decide))) ?_
    refine own_s_aload X140.here hx (hb hby at_153) rfl rfl ?_
    refine own_s_lloadN X140.here hx (hb hby at_155) rfl ?_
    refine own_s_lconst X140.here hx (1 : Int64) (hb hby at_156) rfl ?_
    refine own_s_ladd X140.here hx (hb hby at_157) ?_
    obtain ⟨cq142, kq142, q142a, q142b, q142c⟩ := isOf hZ rfl f141
    obtain ⟨_, _, ⟨T142, L142, k142, n142⟩, -, X142, ⟨Lc142, hQ142, l142, y142, z142⟩, st142⟩ := X140.virtualBack hx (y := (⟨"com/example/geodesic/geodesic/graph/IdIndex", "add", "(J)I"⟩ : MethodName)) (z := (⟨"com/example/geodesic/geodesic/graph/IdIndex", "add", "(J)I"⟩ : MethodName)) hown (mvT hZ (hw _ (List.mem_of_getElem? (i := 61) rfl))) (mvT hZ (hw _ (List.mem_of_getElem? (i := 62) rfl))) (notFace_of_selects (args := #[]) (mvT hZ (hw _ (List.mem_of_getElem? (i := 64) rfl)))) (mvT hZ (hw _ (List.mem_of_getElem? (i := 64) rfl))) (mvT hZ (hw _ (List.mem_of_getElem? (i := 63) rfl))) (by decide) (backOf (W := 0) (own_r9 l Z a0 hw [] ob (ax + (1 : Int64)) aI131 aB131 (own_bn n) n tb140 fi140 1 ax T140.heap n0 SZ140 (own_bnh hn).1 (by decide) hn hax1 hT140 f141 fids140 fsize140 ftable140 fshift140 ge_ob fI140 ga131 fB140 gb131 ne_ob_aI131 ne_ob_aB131 nab131) hZ (hw _ (List.mem_of_getElem? (i := 65) rfl)) (hw _ (List.mem_of_getElem? (i := 6) rfl)) (by decide) (by decide)) q142a q142c (g := (mkF m 158 #[.val (.int e_), .val (.long ax), .second, .val (.int f_), .val (.int ex), .val (.long ((Int32.ofNat n).toInt64)), .second, .val (.int (3 : Int32)), .val (.int dt), .val (.ref ob), .val (.long (((8 : Int64) * ((Int32.ofNat n).toInt64)) + ((4 : Int64) * ((Int32.ofNat (own_tn n)).toInt64)))), .second, .val (.long ((4 : Int64) * ((Int32.ofNat (own_tn n)).toInt64))), .second, .val (.long ((Int32.ofNat (own_tn n)).toInt64)), .second, .unset, .unset] [(.long (ax + (1 : Int64))), (.ref ob)])) rfl (by rw [hml]; rfl) (Steps.refl _) (argsL := [(.long (ax + (1 : Int64)))]) (rest := []) (lenOf own_pd_4 rfl) rfl (by show 2 * 0 + _ ≤ _; exact Nat.le_of_eq rfl) (hb hby at_158) (fun _ _ => ⟨rfl, rfl, (by decide : 5 + 0 ≤ _), (by decide : 6172 + 0 ≤ _)⟩)
    dsimp only [Pt.U, Pt.locs, Pt.cells, Pt.slots] at X142 l142 y142 z142 st142 hQ142
    subst l142 y142 z142
    obtain ⟨tb142, fi142, rfl, N142q, K142, fids142, fsize142, ftable142, fshift142, fI142, fB142, hT142⟩ := hQ142
    have N142 := Fr.app N140 N142q
    have f143 := f141.keep K142
    have SZ142 : n0 ≤ T142.heap.size := Nat.le_trans SZ140 K142.1
    have KC142 := KC140.trans K142 (allS (Or.inl (List.mem_of_getElem? (i := 0) rfl)) (allS (Or.inr sz_aI131) (allS (Or.inr sz_aB131) all0)))
    refine own_by (fun t k => st142.trans k) ?_
    show own_Go p e below T142 (mkF m 161 #[.val (.int e_), .val (.long ax), .second, .val (.int f_), .val (.int ex), .val (.long ((Int32.ofNat n).toInt64)), .second, .val (.int (3 : Int32)), .val (.int dt), .val (.ref ob), .val (.long (((8 : Int64) * ((Int32.ofNat n).toInt64)) + ((4 : Int64) * ((Int32.ofNat (own_tn n)).toInt64)))), .second, .val (.long ((4 : Int64) * ((Int32.ofNat (own_tn n)).toInt64))), .second, .val (.long ((Int32.ofNat (own_tn n)).toInt64)), .second, .unset, .unset] [(.int (Int32.ofNat 1))]) _
    refine own_s_pop X142.here hx (hb hby at_161) rfl ?_
    refine own_s_iload X142.here hx (hb hby at_162) rfl ?_
    refine own_s_iconst X142.here hx (3 : Int32) (hb hby at_164) rfl ?_
    refine own_s_icmpNo X142.here hx (hb hby at_165) (Jvm.Free.XT.ii_lt_f ((by decide))) ?_
    refine own_s_aload X142.here hx (hb hby at_168) rfl rfl ?_
    refine own_s_lloadN X142.here hx (hb hby at_170) rfl ?_
    refine own_by (fun tq_ kq_ => X142.ldc2Long hx hown (mvT hZ (hw _ (List.mem_of_getElem? (i := 60) rfl))) (g := (mkF m 171 #[.val (.int e_), .val (.long ax), .second, .val (.int f_), .val (.int ex), .val (.long ((Int32.ofNat n).toInt64)), .second, .val (.int (3 : Int32)), .val (.int dt), .val (.ref ob), .val (.long (((8 : Int64) * ((Int32.ofNat n).toInt64)) + ((4 : Int64) * ((Int32.ofNat (own_tn n)).toInt64)))), .second, .val (.long ((4 : Int64) * ((Int32.ofNat (own_tn n)).toInt64))), .second, .val (.long ((Int32.ofNat (own_tn n)).toInt64)), .second, .unset, .unset] [(.long ax), (.ref ob)])) rfl (hb hby at_171) tq_ kq_) ?_
    show own_Go p e below T142 (mkF m 174 #[.val (.int e_), .val (.long ax), .second, .val (.int f_), .val (.int ex), .val (.long ((Int32.ofNat n).toInt64)), .second, .val (.int (3 : Int32)), .val (.int dt), .val (.ref ob), .val (.long (((8 : Int64) * ((Int32.ofNat n).toInt64)) + ((4 : Int64) * ((Int32.ofNat (own_tn n)).toInt64)))), .second, .val (.long ((4 : Int64) * ((Int32.ofNat (own_tn n)).toInt64))), .second, .val (.long ((Int32.ofNat (own_tn n)).toInt64)), .second, .unset, .unset] [(.long (2 : Int64)), (.long ax), (.ref ob)]) _
    refine own_s_ladd X142.here hx (hb hby at_174) ?_
    obtain ⟨cq144, kq144, q144a, q144b, q144c⟩ := isOf hZ rfl f143
    obtain ⟨_, _, ⟨T144, L144, k144, n144⟩, -, X144, ⟨Lc144, hQ144, l144, y144, z144⟩, st144⟩ := X142.virtualBack hx (y := (⟨"com/example/geodesic/geodesic/graph/IdIndex", "add", "(J)I"⟩ : MethodName)) (z := (⟨"com/example/geodesic/geodesic/graph/IdIndex", "add", "(J)I"⟩ : MethodName)) hown (mvT hZ (hw _ (List.mem_of_getElem? (i := 61) rfl))) (mvT hZ (hw _ (List.mem_of_getElem? (i := 62) rfl))) (notFace_of_selects (args := #[]) (mvT hZ (hw _ (List.mem_of_getElem? (i := 64) rfl)))) (mvT hZ (hw _ (List.mem_of_getElem? (i := 64) rfl))) (mvT hZ (hw _ (List.mem_of_getElem? (i := 63) rfl))) (by decide) (backOf (W := 0) (own_r9 l Z a0 hw [] ob (ax + (2 : Int64)) aI131 aB131 (own_bn n) n tb142 fi142 2 ax T142.heap n0 SZ142 (own_bnh hn).1 (by decide) hn hax2 hT142 f143 fids142 fsize142 ftable142 fshift142 ge_ob fI142 ga131 fB142 gb131 ne_ob_aI131 ne_ob_aB131 nab131) hZ (hw _ (List.mem_of_getElem? (i := 65) rfl)) (hw _ (List.mem_of_getElem? (i := 6) rfl)) (by decide) (by decide)) q144a q144c (g := (mkF m 175 #[.val (.int e_), .val (.long ax), .second, .val (.int f_), .val (.int ex), .val (.long ((Int32.ofNat n).toInt64)), .second, .val (.int (3 : Int32)), .val (.int dt), .val (.ref ob), .val (.long (((8 : Int64) * ((Int32.ofNat n).toInt64)) + ((4 : Int64) * ((Int32.ofNat (own_tn n)).toInt64)))), .second, .val (.long ((4 : Int64) * ((Int32.ofNat (own_tn n)).toInt64))), .second, .val (.long ((Int32.ofNat (own_tn n)).toInt64)), .second, .unset, .unset] [(.long (ax + (2 : Int64))), (.ref ob)])) rfl (by rw [hml]; rfl) (Steps.refl _) (argsL := [(.long (ax + (2 : Int64)))]) (rest := []) (lenOf own_pd_4 rfl) rfl (by show 2 * 0 + _ ≤ _; exact Nat.le_of_eq rfl) (hb hby at_175) (fun _ _ => ⟨rfl, rfl, (by decide : 5 + 0 ≤ _), (by decide : 6172 + 0 ≤ _)⟩)
    dsimp only [Pt.U, Pt.locs, Pt.cells, Pt.slots] at X144 l144 y144 z144 st144 hQ144
    subst l144 y144 z144
    obtain ⟨tb144, fi144, rfl, N144q, K144, fids144, fsize144, ftable144, fshift144, fI144, fB144, hT144⟩ := hQ144
    have N144 := Fr.app N142 N144q
    have f145 := f143.keep K144
    have SZ144 : n0 ≤ T144.heap.size := Nat.le_trans SZ142 K144.1
    have KC144 := KC142.trans K144 (allS (Or.inl (List.mem_of_getElem? (i := 0) rfl)) (allS (Or.inr sz_aI131) (allS (Or.inr sz_aB131) all0)))
    refine own_by (fun t k => st144.trans k) ?_
    show own_Go p e below T144 (mkF m 178 #[.val (.int e_), .val (.long ax), .second, .val (.int f_), .val (.int ex), .val (.long ((Int32.ofNat n).toInt64)), .second, .val (.int (3 : Int32)), .val (.int dt), .val (.ref ob), .val (.long (((8 : Int64) * ((Int32.ofNat n).toInt64)) + ((4 : Int64) * ((Int32.ofNat (own_tn n)).toInt64)))), .second, .val (.long ((4 : Int64) * ((Int32.ofNat (own_tn n)).toInt64))), .second, .val (.long ((Int32.ofNat (own_tn n)).toInt64)), .second, .unset, .unset] [(.int (Int32.ofNat 2))]) _
    refine own_s_pop X144.here hx (hb hby at_178) rfl ?_
    exact own_p179 hx hZ hw hby hml hown hnm hret hlk  e_ f_ ex dt ax n 3 kz ob aI131 aB131 fi144 (fun i => .int (tb144 i)) X144 rfl N144 SZ144 (Nat.le_trans hkz KC144.1) hn (by decide) f145 fids144 fsize144 ftable144 ge_ob fI144 fB144 ne_ob_aI131 ne_ob_aB131
theorem own_m3 (x : Int32) : (x &&& (3 : Int32)) = 0 ∨ (x &&& (3 : Int32)) = 1 ∨ (x &&& (3 : Int32)) = 2 ∨ (x &&& (3 : Int32)) = 3 := by
  have e1 : (x &&& (3 : Int32)).toInt = x.toInt % 2 ^ 2 := Jvm.Kit.i32_mask x _ (k := 2) (by decide) (by decide)
  simp only [← Int32.toInt_inj, Int32.reduceToInt]
  omega
theorem own_ml : maxLocals = 18 := rfl
theorem own_ef0 (m : MethodId) (e_ : Int32) (ax : Int64) (f_ : Int32) : entryFrame m #[(.int e_), (.long ax), (.int f_)] maxLocals = mkF m 0 #[.val (.int e_), .val (.long ax), .second, .val (.int f_), .unset, .unset, .unset, .unset, .unset, .unset, .unset, .unset, .unset, .unset, .unset, .unset, .unset, .unset] [] := by first | (simp [entryFrame, mkF, argsToLocals, Value.category, maxLocals]; done) | rfl
def own_q_own_r0 (Z : State) (e_ : Int32) (ax : Int64) (f_ : Int32) (h0 : Heap) (n0 : Nat) (v : Option Value) (h : Heap) (L : List Loc) : Prop := v = some (.int (1 : Int32)) ∧ Fr n0 L
set_option maxRecDepth 65536 in
set_option maxHeartbeats 40000000 in
theorem own_r0 (l : Launch) (Z : State) (a0 : Array Value) (hw : ∀ d ∈ tables_1, d.before a0 Z = true) (ws : List Jvm.Cond) (e_ : Int32) (ax : Int64) (f_ : Int32) (h0 : Heap) (n0 : Nat) (Z0 : n0 ≤ h0.size) :
    MetFree l x (head1 (Jvm.Cond.code x code maxLocals ret :: ws) room_1) (fun aq Uq => aq = #[(.int e_), (.long ax), (.int f_)] ∧ Z.Warmed39 Uq.vm ∧ Uq.heap = h0) (fun _ _ _ _ _ => True) (fun _ Uq oq Uq' => ∃ vq Lq, oq = .returned vq ∧ own_q_own_r0 Z e_ ax f_ h0 n0 vq Uq'.heap Lq ∧ ReturnedEndW Uq oq Uq' Lq 24 13440) := by
  refine MetFree.of_bodySF (plainFor_of_name own_pn_IdIndexMemoryBytesPinLaw) hisR ?_
  intro p e s m args below meth c T0 Bd hml0 hP hK
  obtain ⟨rfl, hZ, hh⟩ := hP
  have hx := Bd.exec
  have hby := Bd.bytes
  have hml : c.maxLocals = 18 := hml0
  have hown : s.vm.findClass "com/example/geodesic/geodesic/graph/IdIndexMemoryBytesPinLaw" = some m.cls := findClass_of_methodNamed Bd.named
  have hnm := (name_of_methodNamed Bd.named Bd.method).1
  have hret : meth.sig.returnType = (some .boolean) := Bd.returns
  have hlk : meth.locks = false := BodyLoose.notSynchronized Bd
  have X0 : Stand p l e room_1 s m #[(.int e_), (.long ax), (.int f_)] below meth c T0 [] 0 0 := Stand.of_body Bd
  have e0 : T0.heap = h0 := by rw [← hh, Bd.state]; rfl
  have N0 := Fr.nil n0
  refine own_startW (own_ef0 m e_ ax f_) (Q := fun (v : Option Value) (h : Heap) (L : List Loc) => v = some (.int (1 : Int32)) ∧ Fr n0 L) (k := 24) (j := 13440) ?_
  show own_Go p e below T0 (mkF m 0 #[.val (.int e_), .val (.long ax), .second, .val (.int f_), .unset, .unset, .unset, .unset, .unset, .unset, .unset, .unset, .unset, .unset, .unset, .unset, .unset, .unset] []) _
  have own_wS : ∀ d ∈ Bundle.stringAtoms, d.before a0 Z = true := by
    intro d hd
    simp only [Bundle.stringAtoms, List.mem_cons, List.not_mem_nil, or_false] at hd
    rcases hd with rfl | rfl | rfl | rfl | rfl | rfl | rfl
    · exact (hw _ (List.mem_of_getElem? (i := 8) rfl))
    · exact (hw _ (List.mem_of_getElem? (i := 9) rfl))
    · exact (hw _ (List.mem_of_getElem? (i := 10) rfl))
    · exact (hw _ (List.mem_of_getElem? (i := 11) rfl))
    · exact (hw _ (List.mem_of_getElem? (i := 12) rfl))
    · exact (hw _ (List.mem_of_getElem? (i := 13) rfl))
    · exact (hw _ (List.mem_of_getElem? (i := 14) rfl))
  refine own_s_iloadN X0.here hx (hb hby at_0) rfl ?_
  refine own_s_sipush X0.here hx (2048 : Int32) (hb hby at_1) rfl ?_
  refine own_by (fun tq_ kq_ => iremM X0 hx rfl (hb hby at_4) rfl (by decide) kq_) ?_
  show own_Go p e below T0 (mkF m 5 #[.val (.int e_), .val (.long ax), .second, .val (.int f_), .unset, .unset, .unset, .unset, .unset, .unset, .unset, .unset, .unset, .unset, .unset, .unset, .unset, .unset] [(.int (e_ % (2048 : Int32)))]) _
  refine own_s_istore X0.here hx #[.val (.int e_), .val (.long ax), .second, .val (.int f_), .val (.int (e_ % (2048 : Int32))), .unset, .unset, .unset, .unset, .unset, .unset, .unset, .unset, .unset, .unset, .unset, .unset, .unset] (hb hby at_5) rfl ?_
  refine own_s_iload X0.here hx (hb hby at_7) rfl ?_
  refine own_s_bipush X0.here hx (16 : Int32) (hb hby at_9) rfl ?_
  obtain ⟨_, _, ⟨T146, L146, k146, n146⟩, -, X146, ⟨Lc146, hQ146, l146, y146, z146⟩, st146⟩ := Jvm.LawKit.callS X0 hx (y := (⟨"java/lang/Math", "max", "(II)I"⟩ : MethodName)) hown (mvT hZ (hw _ (List.mem_of_getElem? (i := 0) rfl))) (mvT hZ (hw _ (List.mem_of_getElem? (i := 1) rfl))) (mvT hZ (hw _ (List.mem_of_getElem? (i := 2) rfl))) (mvT hZ (hw _ (List.mem_of_getElem? (i := 3) rfl))) (by decide) (backOf (W := 0) (own_r1 l Z a0 hw [] (e_ % (2048 : Int32)) (16 : Int32)  h0 n0 Z0 ) hZ (hw _ (List.mem_of_getElem? (i := 3) rfl)) (hw _ (List.mem_of_getElem? (i := 2) rfl)) (by decide) (by decide)) (g := (mkF m 11 #[.val (.int e_), .val (.long ax), .second, .val (.int f_), .val (.int (e_ % (2048 : Int32))), .unset, .unset, .unset, .unset, .unset, .unset, .unset, .unset, .unset, .unset, .unset, .unset, .unset] [(.int (16 : Int32)), (.int (e_ % (2048 : Int32)))])) rfl (by rw [hml]; rfl) (argsL := [(.int (e_ % (2048 : Int32))), (.int (16 : Int32))]) (rest := []) (lenOf own_pd_0 rfl) rfl (by show 2 * 0 + _ ≤ _; exact Nat.le_of_eq rfl) (hb hby at_11) (fun _ _ => ⟨rfl, e0, (by decide : 0 + 0 ≤ _), (by decide : 0 + 0 ≤ _)⟩)
  dsimp only [Pt.U, Pt.locs, Pt.cells, Pt.slots] at X146 l146 y146 z146 st146 hQ146
  subst l146 y146 z146
  obtain ⟨rfl, N146q, e146⟩ := hQ146
  have N146 := Fr.app N0 N146q
  refine own_by st146 ?_
  show own_Go p e below T146 (mkF m 14 #[.val (.int e_), .val (.long ax), .second, .val (.int f_), .val (.int (e_ % (2048 : Int32))), .unset, .unset, .unset, .unset, .unset, .unset, .unset, .unset, .unset, .unset, .unset, .unset, .unset] [(.int (own_f1 (e_ % (2048 : Int32)) (16 : Int32)))]) _
  obtain ⟨n, hz, hn⟩ := own_maxh e_
  rw [hz]
  show own_Go p e below T146 (mkF m 14 #[.val (.int e_), .val (.long ax), .second, .val (.int f_), .val (.int (e_ % (2048 : Int32))), .unset, .unset, .unset, .unset, .unset, .unset, .unset, .unset, .unset, .unset, .unset, .unset, .unset] [(.int (Int32.ofNat n))]) _
  refine own_s_i2l X146.here hx (hb hby at_14) ?_
  refine own_s_lstore X146.here hx #[.val (.int e_), .val (.long ax), .second, .val (.int f_), .val (.int (e_ % (2048 : Int32))), .val (.long ((Int32.ofNat n).toInt64)), .second, .unset, .unset, .unset, .unset, .unset, .unset, .unset, .unset, .unset, .unset, .unset] (hb hby at_15) rfl ?_
  refine own_s_iloadN X146.here hx (hb hby at_17) rfl ?_
  refine own_s_iconst X146.here hx (3 : Int32) (hb hby at_18) rfl ?_
  refine own_s_iand X146.here hx (hb hby at_19) ?_
  refine own_s_istore X146.here hx #[.val (.int e_), .val (.long ax), .second, .val (.int f_), .val (.int (e_ % (2048 : Int32))), .val (.long ((Int32.ofNat n).toInt64)), .second, .val (.int (f_ &&& (3 : Int32))), .unset, .unset, .unset, .unset, .unset, .unset, .unset, .unset, .unset, .unset] (hb hby at_20) rfl ?_
  refine own_s_iloadN X146.here hx (hb hby at_22) rfl ?_
  refine own_s_iconst X146.here hx (4 : Int32) (hb hby at_23) rfl ?_
  refine own_s_iand X146.here hx (hb hby at_24) ?_
  by_cases hc25 : (f_ &&& (4 : Int32)) = 0
  ·
    show own_Go p e below T146 (mkF m 25 #[.val (.int e_), .val (.long ax), .second, .val (.int f_), .val (.int (e_ % (2048 : Int32))), .val (.long ((Int32.ofNat n).toInt64)), .second, .val (.int (f_ &&& (3 : Int32))), .unset, .unset, .unset, .unset, .unset, .unset, .unset, .unset, .unset, .unset] [(.int (f_ &&& (4 : Int32)))]) _
    refine own_s_ifYes X146.here hx 32 (hb hby at_25) (Jvm.Free.XT.i0_eq_t hc25) (by decide) (by decide) ?_
    refine own_s_iconst X146.here hx (0 : Int32) (hb hby at_32) rfl ?_
    refine own_s_istore X146.here hx #[.val (.int e_), .val (.long ax), .second, .val (.int f_), .val (.int (e_ % (2048 : Int32))), .val (.long ((Int32.ofNat n).toInt64)), .second, .val (.int (f_ &&& (3 : Int32))), .val (.int (0 : Int32)), .unset, .unset, .unset, .unset, .unset, .unset, .unset, .unset, .unset] (hb hby at_33) rfl ?_
    obtain ⟨T147, h147, X147, e147, E147, A147, D147, -, st147⟩ := newO X146 hx hZ hown (hw _ (List.mem_of_getElem? (i := 4) rfl)) (hw _ (List.mem_of_getElem? (i := 5) rfl)) (hw _ (List.mem_of_getElem? (i := 6) rfl)) e146 (g := (mkF m 35 #[.val (.int e_), .val (.long ax), .second, .val (.int f_), .val (.int (e_ % (2048 : Int32))), .val (.long ((Int32.ofNat n).toInt64)), .second, .val (.int (f_ &&& (3 : Int32))), .val (.int (0 : Int32)), .unset, .unset, .unset, .unset, .unset, .unset, .unset, .unset, .unset] [])) rfl (hb hby at_35) (by decide) (by decide)
    obtain ⟨b147, g147⟩ : ∃ z, z = h0.size := ⟨_, rfl⟩
    rw [← g147] at A147 D147 st147
    have ge_b147 : n0 ≤ b147 := Nat.le_trans Z0 (Nat.le_of_eq g147.symm)
    have SZ147 : n0 ≤ h147.size := Nat.le_trans Z0 E147.1
    have f148 : Fld Z h147 b147 "com/example/geodesic/geodesic/graph/IdIndex" "what" "Ljava/lang/String;" .null := D147 (Or.inr (hw _ (List.mem_of_getElem? (i := 22) rfl))) (ty := (.object "java/lang/String")) (by decide)
    have f149 : Fld Z h147 b147 "com/example/geodesic/geodesic/graph/IdIndex" "ids" "[J" .null := D147 (Or.inl (hw _ (List.mem_of_getElem? (i := 26) rfl))) (ty := (.array .long)) (by decide)
    have f150 : Fld Z h147 b147 "com/example/geodesic/geodesic/graph/IdIndex" "table" "[I" .null := D147 (Or.inl (hw _ (List.mem_of_getElem? (i := 32) rfl))) (ty := (.array .int)) (by decide)
    have f151 : Fld Z h147 b147 "com/example/geodesic/geodesic/graph/IdIndex" "shift" "I" (.int (0 : Int32)) := D147 (Or.inl (hw _ (List.mem_of_getElem? (i := 49) rfl))) (ty := .int) (by decide)
    have f152 : Fld Z h147 b147 "com/example/geodesic/geodesic/graph/IdIndex" "size" "I" (.int (0 : Int32)) := D147 (Or.inl (hw _ (List.mem_of_getElem? (i := 76) rfl))) (ty := .int) (by decide)
    refine own_by st147 ?_
    show own_Go p e below T147 (mkF m 38 #[.val (.int e_), .val (.long ax), .second, .val (.int f_), .val (.int (e_ % (2048 : Int32))), .val (.long ((Int32.ofNat n).toInt64)), .second, .val (.int (f_ &&& (3 : Int32))), .val (.int (0 : Int32)), .unset, .unset, .unset, .unset, .unset, .unset, .unset, .unset, .unset] [(.ref b147)]) _
    refine own_s_dup X147.here hx (hb hby at_38) rfl ?_
    obtain ⟨sa, T153, h153, k1, X153, e153, E153, hS, hk1, hZ, hown, st153⟩ := ldcS (vm0 := s.vm) X147 hx hZ hown (hw _ (List.mem_of_getElem? (i := 7) rfl)) own_wS e147 ((State.WarmedH.refl s).since h147.size) (Nat.le_refl _) (g := (mkF m 39 #[.val (.int e_), .val (.long ax), .second, .val (.int f_), .val (.int (e_ % (2048 : Int32))), .val (.long ((Int32.ofNat n).toInt64)), .second, .val (.int (f_ &&& (3 : Int32))), .val (.int (0 : Int32)), .unset, .unset, .unset, .unset, .unset, .unset, .unset, .unset, .unset] [(.ref b147), (.ref b147)])) rfl (hb hby at_39) (n := 20) (by decide) (by decide) (by decide) (by decide)
    refine own_by st153 ?_
    refine own_toW hS ?_
    have f154 := A147.ext E153
    have f155 := f148.ext E153
    have f156 := f149.ext E153
    have f157 := f150.ext E153
    have f158 := f151.ext E153
    have f159 := f152.ext E153
    have SZ153 : n0 ≤ h153.size := Nat.le_trans SZ147 E153.1
    show own_Go p e below T153 (mkF m 41 #[.val (.int e_), .val (.long ax), .second, .val (.int f_), .val (.int (e_ % (2048 : Int32))), .val (.long ((Int32.ofNat n).toInt64)), .second, .val (.int (f_ &&& (3 : Int32))), .val (.int (0 : Int32)), .unset, .unset, .unset, .unset, .unset, .unset, .unset, .unset, .unset] [(.ref sa), (.ref b147), (.ref b147)]) _
    exact own_p41 hx hZ hw hby hml hown hnm hret hlk  e_ f_ (e_ % (2048 : Int32)) (0 : Int32) (f_ &&& (3 : Int32)) ax n k1 b147 sa X153 e153 N146 SZ153 hk1 hn hz (own_m3 f_) f154 f155 f156 f159 f157 f158 ge_b147
  ·
    refine own_s_ifNo X146.here hx (hb hby at_25) (Jvm.Free.XT.i0_eq_f hc25) ?_
    refine own_s_iconst X146.here hx (1 : Int32) (hb hby at_28) rfl ?_
    show own_Go p e below T146 (mkF m 29 #[.val (.int e_), .val (.long ax), .second, .val (.int f_), .val (.int (e_ % (2048 : Int32))), .val (.long ((Int32.ofNat n).toInt64)), .second, .val (.int (f_ &&& (3 : Int32))), .unset, .unset, .unset, .unset, .unset, .unset, .unset, .unset, .unset, .unset] [(.int (1 : Int32))]) _
    refine own_s_goto X146.here hx 33 (hb hby at_29) (by decide) (by decide) ?_
    refine own_s_istore X146.here hx #[.val (.int e_), .val (.long ax), .second, .val (.int f_), .val (.int (e_ % (2048 : Int32))), .val (.long ((Int32.ofNat n).toInt64)), .second, .val (.int (f_ &&& (3 : Int32))), .val (.int (1 : Int32)), .unset, .unset, .unset, .unset, .unset, .unset, .unset, .unset, .unset] (hb hby at_33) rfl ?_
    obtain ⟨T160, h160, X160, e160, E160, A160, D160, -, st160⟩ := newO X146 hx hZ hown (hw _ (List.mem_of_getElem? (i := 4) rfl)) (hw _ (List.mem_of_getElem? (i := 5) rfl)) (hw _ (List.mem_of_getElem? (i := 6) rfl)) e146 (g := (mkF m 35 #[.val (.int e_), .val (.long ax), .second, .val (.int f_), .val (.int (e_ % (2048 : Int32))), .val (.long ((Int32.ofNat n).toInt64)), .second, .val (.int (f_ &&& (3 : Int32))), .val (.int (1 : Int32)), .unset, .unset, .unset, .unset, .unset, .unset, .unset, .unset, .unset] [])) rfl (hb hby at_35) (by decide) (by decide)
    obtain ⟨b160, g160⟩ : ∃ z, z = h0.size := ⟨_, rfl⟩
    rw [← g160] at A160 D160 st160
    have ge_b160 : n0 ≤ b160 := Nat.le_trans Z0 (Nat.le_of_eq g160.symm)
    have SZ160 : n0 ≤ h160.size := Nat.le_trans Z0 E160.1
    have f161 : Fld Z h160 b160 "com/example/geodesic/geodesic/graph/IdIndex" "what" "Ljava/lang/String;" .null := D160 (Or.inr (hw _ (List.mem_of_getElem? (i := 22) rfl))) (ty := (.object "java/lang/String")) (by decide)
    have f162 : Fld Z h160 b160 "com/example/geodesic/geodesic/graph/IdIndex" "ids" "[J" .null := D160 (Or.inl (hw _ (List.mem_of_getElem? (i := 26) rfl))) (ty := (.array .long)) (by decide)
    have f163 : Fld Z h160 b160 "com/example/geodesic/geodesic/graph/IdIndex" "table" "[I" .null := D160 (Or.inl (hw _ (List.mem_of_getElem? (i := 32) rfl))) (ty := (.array .int)) (by decide)
    have f164 : Fld Z h160 b160 "com/example/geodesic/geodesic/graph/IdIndex" "shift" "I" (.int (0 : Int32)) := D160 (Or.inl (hw _ (List.mem_of_getElem? (i := 49) rfl))) (ty := .int) (by decide)
    have f165 : Fld Z h160 b160 "com/example/geodesic/geodesic/graph/IdIndex" "size" "I" (.int (0 : Int32)) := D160 (Or.inl (hw _ (List.mem_of_getElem? (i := 76) rfl))) (ty := .int) (by decide)
    refine own_by st160 ?_
    show own_Go p e below T160 (mkF m 38 #[.val (.int e_), .val (.long ax), .second, .val (.int f_), .val (.int (e_ % (2048 : Int32))), .val (.long ((Int32.ofNat n).toInt64)), .second, .val (.int (f_ &&& (3 : Int32))), .val (.int (1 : Int32)), .unset, .unset, .unset, .unset, .unset, .unset, .unset, .unset, .unset] [(.ref b160)]) _
    refine own_s_dup X160.here hx (hb hby at_38) rfl ?_
    obtain ⟨sa, T166, h166, k1, X166, e166, E166, hS, hk1, hZ, hown, st166⟩ := ldcS (vm0 := s.vm) X160 hx hZ hown (hw _ (List.mem_of_getElem? (i := 7) rfl)) own_wS e160 ((State.WarmedH.refl s).since h160.size) (Nat.le_refl _) (g := (mkF m 39 #[.val (.int e_), .val (.long ax), .second, .val (.int f_), .val (.int (e_ % (2048 : Int32))), .val (.long ((Int32.ofNat n).toInt64)), .second, .val (.int (f_ &&& (3 : Int32))), .val (.int (1 : Int32)), .unset, .unset, .unset, .unset, .unset, .unset, .unset, .unset, .unset] [(.ref b160), (.ref b160)])) rfl (hb hby at_39) (n := 20) (by decide) (by decide) (by decide) (by decide)
    refine own_by st166 ?_
    refine own_toW hS ?_
    have f167 := A160.ext E166
    have f168 := f161.ext E166
    have f169 := f162.ext E166
    have f170 := f163.ext E166
    have f171 := f164.ext E166
    have f172 := f165.ext E166
    have SZ166 : n0 ≤ h166.size := Nat.le_trans SZ160 E166.1
    show own_Go p e below T166 (mkF m 41 #[.val (.int e_), .val (.long ax), .second, .val (.int f_), .val (.int (e_ % (2048 : Int32))), .val (.long ((Int32.ofNat n).toInt64)), .second, .val (.int (f_ &&& (3 : Int32))), .val (.int (1 : Int32)), .unset, .unset, .unset, .unset, .unset, .unset, .unset, .unset, .unset] [(.ref sa), (.ref b160), (.ref b160)]) _
    exact own_p41 hx hZ hw hby hml hown hnm hret hlk  e_ f_ (e_ % (2048 : Int32)) (1 : Int32) (f_ &&& (3 : Int32)) ax n k1 b160 sa X166 e166 N146 SZ166 hk1 hn hz (own_m3 f_) f167 f168 f169 f172 f170 f171 ge_b160
set_option maxRecDepth 65536 in
set_option maxHeartbeats 40000000 in
theorem own_comes {Post : Tables → Env → Array Value → State → Outcome → State → Prop} (hpost : ∀ tb e args s v u, (limb_1_1.after args s (.returned v) u = true ∧ limb_1_2.after args s (.returned v) u = true ∧ True) → ReturnedEndW s (.returned v) u (Jvm.fieldLocs frame_1_writes args s ++ Jvm.arrayLocs frame_1_arrays args s ++ Jvm.staticLocs frame_1_statics s) 24 13440 → Post tb e args s (.returned v) u) :
    ArmFor flags0 classFile x code maxLocals ret World_1 tables_1 room_1 Calls_1 rest_1 Pre_1 Post := by
  intro l hfl _ _ p e ha hc hk s m args below hf hA hF happ hP
  obtain ⟨hcalls, hrest, hpre⟩ := hP
  obtain ⟨-, -, -, hnamed, -, -, -, hat⟩ := (Spec.applies_iff hf).mp happ
  obtain ⟨hg, hn⟩ := and_e (Cond.before_iff.mp (show (Jvm.Cond.and given_1 narrow_1).before args s = true from hpre))
  obtain ⟨g1, g2⟩ := and_e hg
  obtain ⟨g3, g4⟩ := and_e g2
  obtain ⟨g5, g6⟩ := and_e g4
  obtain ⟨w0, w1, w2, rfl⟩ : ∃ w0 w1 w2 : Value, args = #[w0, w1, w2] := by
    have hs : args.size = 3 := by simpa [Cond.value, given_1] using g1
    obtain ⟨L⟩ := args
    match L, hs with
    | [w0, w1, w2], _ => exact ⟨w0, w1, w2, rfl⟩
  have hw := fun d (hd : d ∈ tables_1) => atoms_spec (ws := Jvm.Cond.code x code maxLocals ret :: tables_1) hat d (List.mem_cons_of_mem _ hd)
  obtain ⟨i0, ei0⟩ := is_v g3
  obtain rfl : w0 = (.int i0) := Option.some.inj ei0
  obtain ⟨i1, ei1⟩ := isL_v g5
  obtain rfl : w1 = (.long i1) := Option.some.inj ei1
  obtain ⟨i2, ei2⟩ := is_v g6
  obtain rfl : w2 = (.int i2) := Option.some.inj ei2
  obtain ⟨n, o, h1, h2, h3, _, L, rfl, ⟨rfl, N⟩, hq⟩ := own_r0 l s _ hw tables_1 i0 i1 i2 s.heap s.heap.size (Nat.le_refl _) p e ha hc hk s m _ below hf ((Spec.applies_iff_loose hf).mp happ).1 ⟨rfl, State.Warmed39.refl s, rfl⟩ trivial
  refine ⟨n, _, h1, h2, h3, hpost _ _ _ _ _ _ ⟨Cond.after_iff.mpr rfl, Cond.after_iff.mpr (eq_i res_at (Term.int_eval (1)) rfl), trivial⟩ ⟨hq.1, hq.2.1, hq.2.2.1, (hq.2.2.2.sift fun y hy => Or.inr (N y hy)).mono (by decide) (by decide)⟩⟩
theorem main_1_1 : Claimed_1_1 := own_comes fun _ _ _ _ _ _ h hF => ⟨h.1, hF⟩
theorem main_1_2 : Claimed_1_2 := own_comes fun _ _ _ _ _ _ h hF => ⟨h.2.1, hF⟩
end Jvm.Pilot.@@N@@
namespace Jvm.Pilot.@@N@@
open Jvm Jvm.ClassFile Sem Op Lib Jvm.Free Jvm.Stand Jvm.Pilot.@@N@@.Jvm.D
/-! MADE BY PROGRAM (witnessworld.py) out of the Statement's table words and the real class files: 22 classes; the members and pool entries that the words name. The judged class is class 1, her method 1. -/
namespace start1
open Jvm.ClassFile
def u (s : String) : CpInfo := .utf8 (stringToUtf16 s)
/-- a pool by its gaps: so many unusable entries, then the entry; so many at the end -/
def gap : Nat → List CpInfo → List CpInfo
  | 0, r => r
  | n + 1, r => .unusable :: gap n r
def poolList (es : List (Nat × CpInfo)) (last : Nat) : List CpInfo := es.foldr (fun e r => gap e.1 (e.2 :: r)) (gap last [])
def pool (es : List (Nat × CpInfo)) (last : Nat) : Array CpInfo := ⟨poolList es last⟩
def fileOf (pool : Array CpInfo) (this : Nat) (attrs : Array Attribute := #[]) (ms : Array MethodInfo := #[]) (fl : Nat := 33) (sup : Nat := 0) (ifs : Array Nat := #[]) (fds : Array FieldInfo := #[]) : ClassFile where
  minorVersion := 0
  majorVersion := 65
  constantPool := pool
  accessFlags := fl
  thisClass := this
  superClass := sup
  interfaces := ifs
  fields := fds
  methods := ms
  attributes := attrs
def plain (name : String) (sup : Option ClassId) : Class where
  name := name
  kind := .ordinary
  loader := none
  accessFlags := 33
  super := sup
  interfaces := #[]
  cf := none
  fields := #[]
  methods := #[]
  instanceTypes := #[]
  staticTypes := #[]
  resolved := #[]
  callSites := []
  init := .initialized
  statics := none
  mirror := none

def pool0 : Array CpInfo := pool [(5, u "<init>"), (0, u "()V"), (1, .class_ 10), (1, u "java/lang/Object")] 113

def k0c0 : Code := { maxStack := 0, maxLocals := 1, code := object_method_1_code, exceptionTable := #[], attributes := #[] }
def k0m0 : Method := { name := "<init>", desc := "()V", sig := { parameters := [], returnType := none }, accessFlags := 1, code := some k0c0 }
/-- java/lang/Object -/
def k0 : Class := { plain "java/lang/Object" none with
  accessFlags := 33
  interfaces := #[]
  cf := some (fileOf pool0 8 #[] #[{ accessFlags := 1, nameIndex := 5, descriptorIndex := 6, attributes := #[] }] 33 0 #[] #[])
  fields := #[]
  methods := #[k0m0]
  instanceTypes := #[]
  staticTypes := #[]
  resolved := Array.replicate 124 none
  statics := none }

def pool1 : Array CpInfo := pool [(2, .class_ 4), (1, u "java/lang/Object"), (0, u "<init>"), (0, u "()V"), (0, .methodref 8 9), (0, .class_ 10), (0, .nameAndType 11 12), (0, u "java/lang/Math"), (0, u "max"), (0, u "(II)I"), (0, .class_ 14), (0, u "com/example/geodesic/geodesic/graph/IdIndex"), (0, .string 16), (0, u "nodes"), (0, .methodref 13 18), (0, .nameAndType 5 19), (0, u "(Ljava/lang/String;I)V"), (0, .methodref 13 21), (0, .nameAndType 22 23), (0, u "memoryBytes"), (0, u "()J"), (0, .long 8), (1, .long 3), (1, .long 4), (1, .long 2), (1, .methodref 13 33), (0, .nameAndType 34 35), (0, u "add"), (0, u "(J)I"), (0, .methodref 13 37), (0, .nameAndType 38 6), (0, u "trim"), (0, .class_ 40), (0, u "com/example/geodesic/geodesic/graph/IdIndexMemoryBytesPinLaw"), (2, u "law"), (0, u "(IJI)Z")] 3

def k1m0 : Method := { name := "<init>", desc := "()V", sig := { parameters := [], returnType := none }, accessFlags := 1, code := none }
def k1c1 : Code := { maxStack := 8, maxLocals := 18, code := code, exceptionTable := #[], attributes := #[] }
def k1m1 : Method := { name := "law", desc := "(IJI)Z", sig := { parameters := [.int, .long, .int], returnType := some .boolean }, accessFlags := 9, code := some k1c1 }
/-- com/example/geodesic/geodesic/graph/IdIndexMemoryBytesPinLaw -/
def k1 : Class := { plain "com/example/geodesic/geodesic/graph/IdIndexMemoryBytesPinLaw" (some 0) with
  accessFlags := 49
  interfaces := #[]
  cf := some (fileOf pool1 39 #[] #[{ accessFlags := 1, nameIndex := 5, descriptorIndex := 6, attributes := #[] }, { accessFlags := 9, nameIndex := 43, descriptorIndex := 44, attributes := #[] }] 49 2 #[] #[])
  fields := #[]
  methods := #[k1m0, k1m1]
  instanceTypes := #[]
  staticTypes := #[]
  resolved := Array.replicate 48 none
  statics := none }

def pool2 : Array CpInfo := pool [(1, .class_ 2), (0, u "java/lang/Math"), (1, .class_ 6), (1, u "java/lang/Object"), (0, u "<init>"), (0, u "()V"), (89, .class_ 100), (1, u "java/lang/Math$RandomNumberGeneratorHolder"), (71, u "negativeZeroFloatBits"), (0, u "J"), (2, u "negativeZeroDoubleBits"), (21, u "max"), (2, u "min"), (43, u "$assertionsDisabled"), (0, u "Z"), (88, u "(II)I"), (2, u "twoToTheDoubleScaleDown"), (0, u "D"), (4, u "twoToTheDoubleScaleUp"), (9, u "E"), (3, u "PI"), (2, u "TAU"), (2, u "DEGREES_TO_RADIANS"), (0, u "RADIANS_TO_DEGREES")] 94

def k2m0 : Method := { name := "<init>", desc := "()V", sig := { parameters := [], returnType := none }, accessFlags := 2, code := none }
def k2c1 : Code := { maxStack := 2, maxLocals := 2, code := jdk_29_method_65_code, exceptionTable := #[], attributes := #[] }
def k2m1 : Method := { name := "max", desc := "(II)I", sig := { parameters := [.int, .int], returnType := some .int }, accessFlags := 9, code := some k2c1 }
def k2c2 : Code := { maxStack := 2, maxLocals := 2, code := jdk_29_method_69_code, exceptionTable := #[], attributes := #[] }
def k2m2 : Method := { name := "min", desc := "(II)I", sig := { parameters := [.int, .int], returnType := some .int }, accessFlags := 9, code := some k2c2 }
/-- java/lang/Math -/
def k2 : Class := { plain "java/lang/Math" (some 0) with
  accessFlags := 49
  interfaces := #[]
  cf := some (fileOf pool2 1 #[.nestMembers #[98]] #[{ accessFlags := 2, nameIndex := 7, descriptorIndex := 8, attributes := #[] }, { accessFlags := 9, nameIndex := 198, descriptorIndex := 335, attributes := #[] }, { accessFlags := 9, nameIndex := 201, descriptorIndex := 335, attributes := #[] }] 49 4 #[] #[{ accessFlags := 25, nameIndex := 354, descriptorIndex := 339, attributes := #[] }, { accessFlags := 25, nameIndex := 358, descriptorIndex := 339, attributes := #[] }, { accessFlags := 25, nameIndex := 361, descriptorIndex := 339, attributes := #[] }, { accessFlags := 26, nameIndex := 364, descriptorIndex := 339, attributes := #[] }, { accessFlags := 26, nameIndex := 365, descriptorIndex := 339, attributes := #[] }, { accessFlags := 26, nameIndex := 172, descriptorIndex := 173, attributes := #[] }, { accessFlags := 26, nameIndex := 176, descriptorIndex := 173, attributes := #[] }, { accessFlags := 8, nameIndex := 344, descriptorIndex := 339, attributes := #[] }, { accessFlags := 8, nameIndex := 338, descriptorIndex := 339, attributes := #[] }, { accessFlags := 4120, nameIndex := 245, descriptorIndex := 246, attributes := #[] }])
  fields := #[{ name := "E", type := .double, accessFlags := 25, slot := 0, constantValue := 0 }, { name := "PI", type := .double, accessFlags := 25, slot := 1, constantValue := 0 }, { name := "TAU", type := .double, accessFlags := 25, slot := 2, constantValue := 0 }, { name := "DEGREES_TO_RADIANS", type := .double, accessFlags := 26, slot := 3, constantValue := 0 }, { name := "RADIANS_TO_DEGREES", type := .double, accessFlags := 26, slot := 4, constantValue := 0 }, { name := "negativeZeroFloatBits", type := .long, accessFlags := 26, slot := 5, constantValue := 0 }, { name := "negativeZeroDoubleBits", type := .long, accessFlags := 26, slot := 6, constantValue := 0 }, { name := "twoToTheDoubleScaleUp", type := .double, accessFlags := 8, slot := 7, constantValue := 0 }, { name := "twoToTheDoubleScaleDown", type := .double, accessFlags := 8, slot := 8, constantValue := 0 }, { name := "$assertionsDisabled", type := .boolean, accessFlags := 4120, slot := 9, constantValue := 0 }]
  methods := #[k2m0, k2m1, k2m2]
  instanceTypes := #[]
  staticTypes := #[.double, .double, .double, .double, .double, .long, .long, .double, .double, .boolean]
  resolved := Array.replicate 460 none
  statics := none }

def pool3 : Array CpInfo := pool [(1, .methodref 2 3), (0, .class_ 4), (0, .nameAndType 5 6), (0, u "java/lang/Object"), (0, u "<init>"), (0, u "()V"), (0, .fieldref 8 9), (0, .class_ 10), (0, .nameAndType 11 12), (0, u "com/example/geodesic/geodesic/graph/IdIndex"), (0, u "what"), (0, u "Ljava/lang/String;"), (0, .methodref 14 15), (0, .class_ 16), (0, .nameAndType 17 18), (0, u "java/lang/Math"), (0, u "max"), (0, u "(II)I"), (0, .fieldref 8 20), (0, .nameAndType 21 22), (0, u "ids"), (0, u "[J"), (0, .methodref 8 24), (0, .nameAndType 25 26), (0, u "allocateTable"), (0, u "(I)V"), (0, .fieldref 8 28), (0, .nameAndType 29 30), (0, u "size"), (0, u "I"), (0, .fieldref 8 32), (0, .nameAndType 33 34), (0, u "table"), (0, u "[I"), (0, .methodref 8 36), (0, .nameAndType 37 38), (0, u "probe"), (0, u "(J)I"), (0, .methodref 8 40), (0, .nameAndType 41 42), (0, u "insert"), (0, u "(IJI)V"), (9, .methodref 8 53), (0, .nameAndType 54 38), (0, u "home"), (0, .class_ 56), (0, u "java/lang/Long"), (0, .long 8), (3, .long 4), (1, .methodref 64 65), (0, .class_ 66), (0, .nameAndType 67 68), (0, u "java/util/Arrays"), (0, u "copyOf"), (0, u "([JI)[J"), (0, .integer 268435456), (9, .long 268435456), (4, .long 2), (1, .long 11400714819323198485), (1, .fieldref 8 89), (0, .nameAndType 90 30), (0, u "shift"), (0, .methodref 55 92), (0, .nameAndType 93 38), (0, u "numberOfLeadingZeros"), (0, .methodref 64 95), (0, .nameAndType 96 97), (0, u "fill"), (0, u "([II)V"), (0, u "EMPTY"), (2, u "MAX_SIZE"), (0, u "(Ljava/lang/String;I)V"), (6, u "add"), (4, u "memoryBytes"), (0, u "()J"), (0, u "trim")] 20

def k3c0 : Code := { maxStack := 3, maxLocals := 3, code := prog_15_method_1_code, exceptionTable := #[], attributes := #[] }
def k3m0 : Method := { name := "<init>", desc := "(Ljava/lang/String;I)V", sig := { parameters := [(.object "java/lang/String"), .int], returnType := none }, accessFlags := 0, code := some k3c0 }
def k3c1 : Code := { maxStack := 5, maxLocals := 5, code := prog_15_method_5_code, exceptionTable := #[], attributes := #[] }
def k3m1 : Method := { name := "add", desc := "(J)I", sig := { parameters := [.long], returnType := some .int }, accessFlags := 0, code := some k3c1 }
def k3c2 : Code := { maxStack := 6, maxLocals := 1, code := prog_15_method_8_code, exceptionTable := #[], attributes := #[] }
def k3m2 : Method := { name := "memoryBytes", desc := "()J", sig := { parameters := [], returnType := some .long }, accessFlags := 0, code := some k3c2 }
def k3c3 : Code := { maxStack := 3, maxLocals := 1, code := prog_15_method_9_code, exceptionTable := #[], attributes := #[] }
def k3m3 : Method := { name := "trim", desc := "()V", sig := { parameters := [], returnType := none }, accessFlags := 0, code := some k3c3 }
def k3c4 : Code := { maxStack := 8, maxLocals := 5, code := prog_15_method_10_code, exceptionTable := #[], attributes := #[] }
def k3m4 : Method := { name := "insert", desc := "(IJI)V", sig := { parameters := [.int, .long, .int], returnType := none }, accessFlags := 2, code := some k3c4 }
def k3c5 : Code := { maxStack := 4, maxLocals := 4, code := prog_15_method_11_code, exceptionTable := #[], attributes := #[] }
def k3m5 : Method := { name := "probe", desc := "(J)I", sig := { parameters := [.long], returnType := some .int }, accessFlags := 2, code := some k3c5 }
def k3c6 : Code := { maxStack := 4, maxLocals := 3, code := prog_15_method_12_code, exceptionTable := #[], attributes := #[] }
def k3m6 : Method := { name := "home", desc := "(J)I", sig := { parameters := [.long], returnType := some .int }, accessFlags := 2, code := some k3c6 }
def k3c7 : Code := { maxStack := 5, maxLocals := 8, code := prog_15_method_13_code, exceptionTable := #[], attributes := #[] }
def k3m7 : Method := { name := "allocateTable", desc := "(I)V", sig := { parameters := [.int], returnType := none }, accessFlags := 2, code := some k3c7 }
/-- com/example/geodesic/geodesic/graph/IdIndex -/
def k3 : Class := { plain "com/example/geodesic/geodesic/graph/IdIndex" (some 0) with
  accessFlags := 48
  interfaces := #[]
  cf := some (fileOf pool3 8 #[] #[{ accessFlags := 0, nameIndex := 5, descriptorIndex := 102, attributes := #[] }, { accessFlags := 0, nameIndex := 109, descriptorIndex := 38, attributes := #[] }, { accessFlags := 0, nameIndex := 114, descriptorIndex := 115, attributes := #[] }, { accessFlags := 0, nameIndex := 116, descriptorIndex := 6, attributes := #[] }, { accessFlags := 2, nameIndex := 41, descriptorIndex := 42, attributes := #[] }, { accessFlags := 2, nameIndex := 37, descriptorIndex := 38, attributes := #[] }, { accessFlags := 2, nameIndex := 54, descriptorIndex := 38, attributes := #[] }, { accessFlags := 2, nameIndex := 25, descriptorIndex := 26, attributes := #[] }] 48 2 #[] #[{ accessFlags := 26, nameIndex := 98, descriptorIndex := 30, attributes := #[] }, { accessFlags := 24, nameIndex := 101, descriptorIndex := 30, attributes := #[] }, { accessFlags := 18, nameIndex := 11, descriptorIndex := 12, attributes := #[] }, { accessFlags := 2, nameIndex := 21, descriptorIndex := 22, attributes := #[] }, { accessFlags := 2, nameIndex := 29, descriptorIndex := 30, attributes := #[] }, { accessFlags := 2, nameIndex := 33, descriptorIndex := 34, attributes := #[] }, { accessFlags := 2, nameIndex := 90, descriptorIndex := 30, attributes := #[] }])
  fields := #[{ name := "EMPTY", type := .int, accessFlags := 26, slot := 0, constantValue := 0 }, { name := "MAX_SIZE", type := .int, accessFlags := 24, slot := 1, constantValue := 0 }, { name := "what", type := (.object "java/lang/String"), accessFlags := 18, slot := 0, constantValue := 0 }, { name := "ids", type := (.array .long), accessFlags := 2, slot := 1, constantValue := 0 }, { name := "size", type := .int, accessFlags := 2, slot := 2, constantValue := 0 }, { name := "table", type := (.array .int), accessFlags := 2, slot := 3, constantValue := 0 }, { name := "shift", type := .int, accessFlags := 2, slot := 4, constantValue := 0 }]
  methods := #[k3m0, k3m1, k3m2, k3m3, k3m4, k3m5, k3m6, k3m7]
  instanceTypes := #[(.object "java/lang/String"), (.array .long), .int, (.array .int), .int]
  staticTypes := #[.int, .int]
  resolved := Array.replicate 137 none
  statics := none }

def pool4 : Array CpInfo := pool [(1, .class_ 2), (0, u "java/io/Serializable"), (0, .class_ 4), (0, u "java/lang/Object")] 2

/-- java/io/Serializable -/
def k4 : Class := { plain "java/io/Serializable" (some 0) with
  accessFlags := 1537
  interfaces := #[]
  cf := some (fileOf pool4 1 #[] #[] 1537 3 #[] #[])
  fields := #[]
  methods := #[]
  instanceTypes := #[]
  staticTypes := #[]
  resolved := Array.replicate 7 none
  statics := none }

def pool5 : Array CpInfo := pool [(1, .class_ 2), (0, u "java/lang/Comparable"), (0, .class_ 4), (0, u "java/lang/Object")] 7

/-- java/lang/Comparable -/
def k5 : Class := { plain "java/lang/Comparable" (some 0) with
  accessFlags := 1537
  interfaces := #[]
  cf := some (fileOf pool5 1 #[] #[] 1537 3 #[] #[])
  fields := #[]
  methods := #[]
  instanceTypes := #[]
  staticTypes := #[]
  resolved := Array.replicate 12 none
  statics := none }

def pool6 : Array CpInfo := pool [(2, .class_ 4), (1, u "java/lang/CharSequence"), (42, .class_ 48), (0, u "java/lang/CharSequence$1CodePointIterator"), (10, .class_ 60), (0, u "java/lang/CharSequence$1CharIterator"), (5, .class_ 67), (0, u "java/lang/Object")] 63

/-- java/lang/CharSequence -/
def k6 : Class := { plain "java/lang/CharSequence" (some 0) with
  accessFlags := 1537
  interfaces := #[]
  cf := some (fileOf pool6 2 #[.nestMembers #[47, 59]] #[] 1537 66 #[] #[])
  fields := #[]
  methods := #[]
  instanceTypes := #[]
  staticTypes := #[]
  resolved := Array.replicate 131 none
  statics := none }

def pool7 : Array CpInfo := pool [(1, .class_ 2), (0, u "java/lang/constant/Constable"), (0, .class_ 4), (0, u "java/lang/Object")] 6

/-- java/lang/constant/Constable -/
def k7 : Class := { plain "java/lang/constant/Constable" (some 0) with
  accessFlags := 1537
  interfaces := #[]
  cf := some (fileOf pool7 1 #[] #[] 1537 3 #[] #[])
  fields := #[]
  methods := #[]
  instanceTypes := #[]
  staticTypes := #[]
  resolved := Array.replicate 11 none
  statics := none }

def pool8 : Array CpInfo := pool [(1, .class_ 2), (0, u "java/lang/constant/ConstantDesc"), (0, .class_ 4), (0, u "java/lang/Object")] 32

/-- java/lang/constant/ConstantDesc -/
def k8 : Class := { plain "java/lang/constant/ConstantDesc" (some 0) with
  accessFlags := 1537
  interfaces := #[]
  cf := some (fileOf pool8 1 #[] #[] 1537 3 #[] #[])
  fields := #[]
  methods := #[]
  instanceTypes := #[]
  staticTypes := #[]
  resolved := Array.replicate 37 none
  statics := none }

def pool9 : Array CpInfo := pool [(2, .class_ 4), (1, u "java/lang/Object"), (0, u "<init>"), (0, u "()V"), (3, .class_ 12), (1, u "java/lang/String"), (0, u "value"), (0, u "[B"), (2, u "coder"), (0, u "B"), (2, u "hash"), (0, u "I"), (2, u "hashIsZero"), (0, u "Z"), (13, u "COMPACT_STRINGS"), (534, .class_ 576), (0, u "java/lang/CharSequence"), (22, u "CASE_INSENSITIVE_ORDER"), (0, u "Ljava/util/Comparator;"), (500, u "serialPersistentFields"), (0, u "[Ljava/io/ObjectStreamField;"), (0, .class_ 1104), (0, u "java/lang/String$CaseInsensitiveComparator"), (1, .class_ 1107), (0, u "java/io/Serializable"), (0, .class_ 1109), (0, u "java/lang/Comparable"), (0, .class_ 1111), (0, u "java/lang/constant/Constable"), (0, .class_ 1113), (0, u "java/lang/constant/ConstantDesc"), (2, u "serialVersionUID"), (0, u "J"), (3, u "REPL"), (0, u "C"), (2, u "LATIN1"), (1, u "UTF16")] 323

def k9m0 : Method := { name := "<init>", desc := "()V", sig := { parameters := [], returnType := none }, accessFlags := 1, code := none }
/-- java/lang/String -/
def k9 : Class := { plain "java/lang/String" (some 0) with
  accessFlags := 49
  interfaces := #[4, 5, 6, 7, 8]
  cf := some (fileOf pool9 10 #[.nestMembers #[1103]] #[{ accessFlags := 1, nameIndex := 5, descriptorIndex := 6, attributes := #[] }] 49 2 #[1106, 1108, 575, 1110, 1112] #[{ accessFlags := 18, nameIndex := 13, descriptorIndex := 14, attributes := #[] }, { accessFlags := 18, nameIndex := 17, descriptorIndex := 18, attributes := #[] }, { accessFlags := 2, nameIndex := 21, descriptorIndex := 22, attributes := #[] }, { accessFlags := 2, nameIndex := 25, descriptorIndex := 26, attributes := #[] }, { accessFlags := 26, nameIndex := 1116, descriptorIndex := 1117, attributes := #[] }, { accessFlags := 24, nameIndex := 40, descriptorIndex := 26, attributes := #[] }, { accessFlags := 26, nameIndex := 1101, descriptorIndex := 1102, attributes := #[] }, { accessFlags := 26, nameIndex := 1121, descriptorIndex := 1122, attributes := #[] }, { accessFlags := 25, nameIndex := 599, descriptorIndex := 600, attributes := #[] }, { accessFlags := 24, nameIndex := 1125, descriptorIndex := 18, attributes := #[] }, { accessFlags := 24, nameIndex := 1127, descriptorIndex := 18, attributes := #[] }])
  fields := #[{ name := "value", type := (.array .byte), accessFlags := 18, slot := 0, constantValue := 0 }, { name := "coder", type := .byte, accessFlags := 18, slot := 1, constantValue := 0 }, { name := "hash", type := .int, accessFlags := 2, slot := 2, constantValue := 0 }, { name := "hashIsZero", type := .boolean, accessFlags := 2, slot := 3, constantValue := 0 }, { name := "serialVersionUID", type := .long, accessFlags := 26, slot := 0, constantValue := 0 }, { name := "COMPACT_STRINGS", type := .boolean, accessFlags := 24, slot := 1, constantValue := 0 }, { name := "serialPersistentFields", type := (.array (.object "java/io/ObjectStreamField")), accessFlags := 26, slot := 2, constantValue := 0 }, { name := "REPL", type := .char, accessFlags := 26, slot := 3, constantValue := 0 }, { name := "CASE_INSENSITIVE_ORDER", type := (.object "java/util/Comparator"), accessFlags := 25, slot := 4, constantValue := 0 }, { name := "LATIN1", type := .byte, accessFlags := 24, slot := 5, constantValue := 0 }, { name := "UTF16", type := .byte, accessFlags := 24, slot := 6, constantValue := 0 }]
  methods := #[k9m0]
  instanceTypes := #[(.array .byte), .byte, .int, .boolean]
  staticTypes := #[.long, .boolean, (.array (.object "java/io/ObjectStreamField")), .char, (.object "java/util/Comparator"), .byte, .byte]
  resolved := Array.replicate 1451 none
  statics := none }

def pool10 : Array CpInfo := pool [(2, .class_ 4), (1, u "java/lang/Object"), (0, u "<init>"), (0, u "()V"), (1, .class_ 10), (1, u "java/lang/Number"), (2, .class_ 14), (0, u "java/io/Serializable"), (0, u "serialVersionUID"), (0, u "J")] 20

def k10m0 : Method := { name := "<init>", desc := "()V", sig := { parameters := [], returnType := none }, accessFlags := 1, code := none }
/-- java/lang/Number -/
def k10 : Class := { plain "java/lang/Number" (some 0) with
  accessFlags := 1057
  interfaces := #[4]
  cf := some (fileOf pool10 8 #[] #[{ accessFlags := 1, nameIndex := 5, descriptorIndex := 6, attributes := #[] }] 1057 2 #[13] #[{ accessFlags := 26, nameIndex := 15, descriptorIndex := 16, attributes := #[] }])
  fields := #[{ name := "serialVersionUID", type := .long, accessFlags := 26, slot := 0, constantValue := 0 }]
  methods := #[k10m0]
  instanceTypes := #[]
  staticTypes := #[.long]
  resolved := Array.replicate 37 none
  statics := none }

def pool11 : Array CpInfo := pool [(1, .class_ 2), (0, u "java/lang/Long"), (15, .class_ 20), (1, u "java/lang/Integer"), (79, u "numberOfLeadingZeros"), (0, u "(J)I"), (133, .class_ 237), (1, u "java/lang/Long$LongCache"), (33, .class_ 272), (0, u "java/lang/Number"), (2, u "value"), (0, u "J"), (31, .methodref 18 309), (0, .nameAndType 100 310), (0, u "(I)I"), (50, u "TYPE"), (0, u "Ljava/lang/Class;"), (0, .class_ 364), (0, u "java/lang/Comparable"), (0, .class_ 366), (0, u "java/lang/constant/Constable"), (0, .class_ 368), (0, u "java/lang/constant/ConstantDesc"), (0, u "MIN_VALUE"), (1, u "MAX_VALUE"), (4, u "SIZE"), (0, u "I"), (1, u "BYTES"), (1, u "serialVersionUID")] 142

def k11c0 : Code := { maxStack := 3, maxLocals := 3, code := jdk_35_method_48_code, exceptionTable := #[], attributes := #[] }
def k11m0 : Method := { name := "numberOfLeadingZeros", desc := "(J)I", sig := { parameters := [.long], returnType := some .int }, accessFlags := 9, code := some k11c0 }
/-- java/lang/Long -/
def k11 : Class := { plain "java/lang/Long" (some 10) with
  accessFlags := 49
  interfaces := #[5, 7, 8]
  cf := some (fileOf pool11 1 #[.nestMembers #[235]] #[{ accessFlags := 9, nameIndex := 100, descriptorIndex := 101, attributes := #[] }] 49 271 #[363, 365, 367] #[{ accessFlags := 25, nameIndex := 369, descriptorIndex := 276, attributes := #[] }, { accessFlags := 25, nameIndex := 371, descriptorIndex := 276, attributes := #[] }, { accessFlags := 25, nameIndex := 361, descriptorIndex := 362, attributes := #[] }, { accessFlags := 18, nameIndex := 275, descriptorIndex := 276, attributes := #[] }, { accessFlags := 25, nameIndex := 376, descriptorIndex := 377, attributes := #[] }, { accessFlags := 25, nameIndex := 379, descriptorIndex := 377, attributes := #[] }, { accessFlags := 26, nameIndex := 381, descriptorIndex := 276, attributes := #[] }])
  fields := #[{ name := "MIN_VALUE", type := .long, accessFlags := 25, slot := 0, constantValue := 0 }, { name := "MAX_VALUE", type := .long, accessFlags := 25, slot := 1, constantValue := 0 }, { name := "TYPE", type := (.object "java/lang/Class"), accessFlags := 25, slot := 2, constantValue := 0 }, { name := "value", type := .long, accessFlags := 18, slot := 0, constantValue := 0 }, { name := "SIZE", type := .int, accessFlags := 25, slot := 3, constantValue := 0 }, { name := "BYTES", type := .int, accessFlags := 25, slot := 4, constantValue := 0 }, { name := "serialVersionUID", type := .long, accessFlags := 26, slot := 5, constantValue := 0 }]
  methods := #[k11m0]
  instanceTypes := #[.long]
  staticTypes := #[.long, .long, (.object "java/lang/Class"), .int, .int, .long]
  resolved := Array.replicate 524 none
  statics := none }

def pool12 : Array CpInfo := pool [(1, .class_ 2), (0, u "java/lang/Integer"), (16, u "digits"), (0, u "[C"), (32, u "numberOfLeadingZeros"), (0, u "(I)I"), (30, u "DigitOnes"), (0, u "[B"), (2, u "DigitTens"), (99, .class_ 190), (0, u "java/lang/Integer$IntegerCache"), (3, u "I"), (8, .class_ 204), (0, u "java/lang/Number"), (2, u "value"), (56, .integer 65536), (37, u "TYPE"), (0, u "Ljava/lang/Class;"), (0, .class_ 305), (0, u "java/lang/Comparable"), (0, .class_ 307), (0, u "java/lang/constant/Constable"), (0, .class_ 309), (0, u "java/lang/constant/ConstantDesc"), (0, u "MIN_VALUE"), (1, u "MAX_VALUE"), (3, u "SIZE"), (1, u "BYTES"), (1, u "serialVersionUID"), (0, u "J")] 131

def k12c0 : Code := { maxStack := 3, maxLocals := 2, code := jdk_33_method_47_code, exceptionTable := #[], attributes := #[] }
def k12m0 : Method := { name := "numberOfLeadingZeros", desc := "(I)I", sig := { parameters := [.int], returnType := some .int }, accessFlags := 9, code := some k12c0 }
/-- java/lang/Integer -/
def k12 : Class := { plain "java/lang/Integer" (some 10) with
  accessFlags := 49
  interfaces := #[5, 7, 8]
  cf := some (fileOf pool12 1 #[.nestMembers #[189]] #[{ accessFlags := 9, nameIndex := 53, descriptorIndex := 54, attributes := #[] }] 49 203 #[304, 306, 308] #[{ accessFlags := 25, nameIndex := 310, descriptorIndex := 194, attributes := #[] }, { accessFlags := 25, nameIndex := 312, descriptorIndex := 194, attributes := #[] }, { accessFlags := 25, nameIndex := 302, descriptorIndex := 303, attributes := #[] }, { accessFlags := 24, nameIndex := 19, descriptorIndex := 20, attributes := #[] }, { accessFlags := 24, nameIndex := 89, descriptorIndex := 86, attributes := #[] }, { accessFlags := 24, nameIndex := 85, descriptorIndex := 86, attributes := #[] }, { accessFlags := 18, nameIndex := 207, descriptorIndex := 194, attributes := #[] }, { accessFlags := 25, nameIndex := 316, descriptorIndex := 194, attributes := #[] }, { accessFlags := 25, nameIndex := 318, descriptorIndex := 194, attributes := #[] }, { accessFlags := 26, nameIndex := 320, descriptorIndex := 321, attributes := #[] }])
  fields := #[{ name := "MIN_VALUE", type := .int, accessFlags := 25, slot := 0, constantValue := 0 }, { name := "MAX_VALUE", type := .int, accessFlags := 25, slot := 1, constantValue := 0 }, { name := "TYPE", type := (.object "java/lang/Class"), accessFlags := 25, slot := 2, constantValue := 0 }, { name := "digits", type := (.array .char), accessFlags := 24, slot := 3, constantValue := 0 }, { name := "DigitTens", type := (.array .byte), accessFlags := 24, slot := 4, constantValue := 0 }, { name := "DigitOnes", type := (.array .byte), accessFlags := 24, slot := 5, constantValue := 0 }, { name := "value", type := .int, accessFlags := 18, slot := 0, constantValue := 0 }, { name := "SIZE", type := .int, accessFlags := 25, slot := 6, constantValue := 0 }, { name := "BYTES", type := .int, accessFlags := 25, slot := 7, constantValue := 0 }, { name := "serialVersionUID", type := .long, accessFlags := 26, slot := 8, constantValue := 0 }]
  methods := #[k12m0]
  instanceTypes := #[.int]
  staticTypes := #[.int, .int, (.object "java/lang/Class"), (.array .char), (.array .byte), (.array .byte), .int, .int, .long]
  resolved := Array.replicate 453 none
  statics := none }

def pool13 : Array CpInfo := pool [(2, .class_ 4), (1, u "java/lang/Object"), (0, u "<init>"), (0, u "()V"), (7, .class_ 16), (1, u "java/util/Arrays"), (57, .class_ 76), (1, u "java/util/Arrays$NaturalOrder"), (36, .class_ 115), (1, u "java/util/Arrays$LegacyMergeSort"), (1, u "Z"), (32, .methodref 151 152), (0, .class_ 153), (0, .nameAndType 154 155), (0, u "java/lang/System"), (0, u "arraycopy"), (0, u "(Ljava/lang/Object;ILjava/lang/Object;II)V"), (146, u "copyOf"), (1, .methodref 305 306), (0, .class_ 307), (0, .nameAndType 308 309), (0, u "java/lang/Math"), (0, u "min"), (0, u "(II)I"), (65, .class_ 376), (0, u "java/util/Arrays$ArrayList"), (68, u "$assertionsDisabled"), (269, u "MIN_ARRAY_SORT_GRAN"), (0, u "I"), (2, u "INSERTIONSORT_THRESHOLD"), (120, u "fill"), (4, u "([II)V"), (26, u "([JI)[J"), (102, .class_ 976), (0, u "java/util/Arrays$ArrayItr")] 52

def k13m0 : Method := { name := "<init>", desc := "()V", sig := { parameters := [], returnType := none }, accessFlags := 2, code := none }
def k13c1 : Code := { maxStack := 3, maxLocals := 4, code := jdk_65_method_103_code, exceptionTable := #[], attributes := #[] }
def k13m1 : Method := { name := "fill", desc := "([II)V", sig := { parameters := [(.array .int), .int], returnType := none }, accessFlags := 9, code := some k13c1 }
def k13c2 : Code := { maxStack := 6, maxLocals := 3, code := jdk_65_method_124_code, exceptionTable := #[], attributes := #[] }
def k13m2 : Method := { name := "copyOf", desc := "([JI)[J", sig := { parameters := [(.array .long), .int], returnType := some (.array .long) }, accessFlags := 9, code := some k13c2 }
/-- java/util/Arrays -/
def k13 : Class := { plain "java/util/Arrays" (some 0) with
  accessFlags := 49
  interfaces := #[]
  cf := some (fileOf pool13 14 #[.nestMembers #[975, 375, 113, 74]] #[{ accessFlags := 2, nameIndex := 5, descriptorIndex := 6, attributes := #[] }, { accessFlags := 9, nameIndex := 840, descriptorIndex := 845, attributes := #[] }, { accessFlags := 9, nameIndex := 302, descriptorIndex := 872, attributes := #[] }] 49 2 #[] #[{ accessFlags := 26, nameIndex := 715, descriptorIndex := 716, attributes := #[] }, { accessFlags := 26, nameIndex := 719, descriptorIndex := 716, attributes := #[] }, { accessFlags := 4120, nameIndex := 445, descriptorIndex := 117, attributes := #[] }])
  fields := #[{ name := "MIN_ARRAY_SORT_GRAN", type := .int, accessFlags := 26, slot := 0, constantValue := 0 }, { name := "INSERTIONSORT_THRESHOLD", type := .int, accessFlags := 26, slot := 1, constantValue := 0 }, { name := "$assertionsDisabled", type := .boolean, accessFlags := 4120, slot := 2, constantValue := 0 }]
  methods := #[k13m0, k13m1, k13m2]
  instanceTypes := #[]
  staticTypes := #[.int, .int, .boolean]
  resolved := Array.replicate 1029 none
  statics := none }

def pool14 : Array CpInfo := pool [(2, .class_ 4), (1, u "java/lang/Object"), (0, u "<init>"), (0, u "()V"), (1, .class_ 10), (1, u "java/lang/System"), (0, u "allowSecurityManager"), (0, u "I"), (16, u "cons"), (0, u "Ljava/io/Console;"), (77, .class_ 110), (1, u "java/lang/System$CallersHolder"), (43, u "initialErrStream"), (0, u "Ljava/io/PrintStream;"), (19, u "security"), (0, u "Ljava/lang/SecurityManager;"), (31, .class_ 209), (0, u "java/lang/System$1"), (7, u "props"), (0, u "Ljava/util/Properties;"), (2, u "lineSeparator"), (0, u "Ljava/lang/String;"), (96, .class_ 321), (1, u "java/lang/System$LoggerFinder"), (5, .class_ 328), (0, u "java/lang/System$Logger"), (67, u "err"), (2, u "out"), (91, u "notSupportedJnuEncoding"), (15, u "in"), (17, u "initialIn"), (0, u "Ljava/io/InputStream;"), (35, u "bootLayer"), (0, u "Ljava/lang/ModuleLayer;"), (99, .class_ 664), (0, u "java/lang/System$2"), (9, u "NEVER"), (2, u "MAYBE"), (49, u "arraycopy"), (0, u "(Ljava/lang/Object;ILjava/lang/Object;II)V"), (72, .class_ 802), (0, u "java/lang/System$Logger$Level")] 31

def k14m0 : Method := { name := "<init>", desc := "()V", sig := { parameters := [], returnType := none }, accessFlags := 2, code := none }
def k14m1 : Method := { name := "arraycopy", desc := "(Ljava/lang/Object;ILjava/lang/Object;II)V", sig := { parameters := [(.object "java/lang/Object"), .int, (.object "java/lang/Object"), .int, .int], returnType := none }, accessFlags := 265, code := none }
/-- java/lang/System -/
def k14 : Class := { plain "java/lang/System" (some 0) with
  accessFlags := 49
  interfaces := #[]
  cf := some (fileOf pool14 8 #[.nestMembers #[319, 327, 801, 108, 663, 208]] #[{ accessFlags := 2, nameIndex := 5, descriptorIndex := 6, attributes := #[] }, { accessFlags := 265, nameIndex := 727, descriptorIndex := 728, attributes := #[] }] 49 2 #[] #[{ accessFlags := 25, nameIndex := 507, descriptorIndex := 526, attributes := #[] }, { accessFlags := 25, nameIndex := 399, descriptorIndex := 155, attributes := #[] }, { accessFlags := 25, nameIndex := 396, descriptorIndex := 155, attributes := #[] }, { accessFlags := 10, nameIndex := 525, descriptorIndex := 526, attributes := #[] }, { accessFlags := 26, nameIndex := 674, descriptorIndex := 12, attributes := #[] }, { accessFlags := 26, nameIndex := 677, descriptorIndex := 12, attributes := #[] }, { accessFlags := 10, nameIndex := 11, descriptorIndex := 12, attributes := #[] }, { accessFlags := 74, nameIndex := 175, descriptorIndex := 176, attributes := #[] }, { accessFlags := 10, nameIndex := 491, descriptorIndex := 222, attributes := #[] }, { accessFlags := 74, nameIndex := 29, descriptorIndex := 30, attributes := #[] }, { accessFlags := 74, nameIndex := 154, descriptorIndex := 155, attributes := #[] }, { accessFlags := 10, nameIndex := 217, descriptorIndex := 218, attributes := #[] }, { accessFlags := 10, nameIndex := 221, descriptorIndex := 222, attributes := #[] }, { accessFlags := 8, nameIndex := 562, descriptorIndex := 563, attributes := #[] }])
  fields := #[{ name := "in", type := (.object "java/io/InputStream"), accessFlags := 25, slot := 0, constantValue := 0 }, { name := "out", type := (.object "java/io/PrintStream"), accessFlags := 25, slot := 1, constantValue := 0 }, { name := "err", type := (.object "java/io/PrintStream"), accessFlags := 25, slot := 2, constantValue := 0 }, { name := "initialIn", type := (.object "java/io/InputStream"), accessFlags := 10, slot := 3, constantValue := 0 }, { name := "NEVER", type := .int, accessFlags := 26, slot := 4, constantValue := 0 }, { name := "MAYBE", type := .int, accessFlags := 26, slot := 5, constantValue := 0 }, { name := "allowSecurityManager", type := .int, accessFlags := 10, slot := 6, constantValue := 0 }, { name := "security", type := (.object "java/lang/SecurityManager"), accessFlags := 74, slot := 7, constantValue := 0 }, { name := "notSupportedJnuEncoding", type := (.object "java/lang/String"), accessFlags := 10, slot := 8, constantValue := 0 }, { name := "cons", type := (.object "java/io/Console"), accessFlags := 74, slot := 9, constantValue := 0 }, { name := "initialErrStream", type := (.object "java/io/PrintStream"), accessFlags := 74, slot := 10, constantValue := 0 }, { name := "props", type := (.object "java/util/Properties"), accessFlags := 10, slot := 11, constantValue := 0 }, { name := "lineSeparator", type := (.object "java/lang/String"), accessFlags := 10, slot := 12, constantValue := 0 }, { name := "bootLayer", type := (.object "java/lang/ModuleLayer"), accessFlags := 8, slot := 13, constantValue := 0 }]
  methods := #[k14m0, k14m1]
  instanceTypes := #[]
  staticTypes := #[(.object "java/io/InputStream"), (.object "java/io/PrintStream"), (.object "java/io/PrintStream"), (.object "java/io/InputStream"), .int, .int, .int, (.object "java/lang/SecurityManager"), (.object "java/lang/String"), (.object "java/io/Console"), (.object "java/io/PrintStream"), (.object "java/util/Properties"), (.object "java/lang/String"), (.object "java/lang/ModuleLayer")]
  resolved := Array.replicate 834 none
  statics := none }

def pool15 : Array CpInfo := pool [(1, u "java/lang/Cloneable"), (0, .class_ 1), (0, u "java/lang/Object"), (0, .class_ 3)] 3

/-- java/lang/Cloneable -/
def k15 : Class := { plain "java/lang/Cloneable" (some 0) with
  accessFlags := 1537
  interfaces := #[]
  cf := some (fileOf pool15 2 #[] #[] 1537 4 #[] #[])
  fields := #[]
  methods := #[]
  instanceTypes := #[]
  staticTypes := #[]
  resolved := Array.replicate 8 none
  statics := none }

/-- the primitive byte -/
def k16 : Class := { plain "byte" none with kind := .primitive 'B', accessFlags := 0x411 }
/-- [B -/
def k17 : Class := { plain "[B" (some 0) with kind := .array 16 .byte, interfaces := #[15, 4], accessFlags := 1041 }

/-- the primitive int -/
def k18 : Class := { plain "int" none with kind := .primitive 'I', accessFlags := 0x411 }
/-- [I -/
def k19 : Class := { plain "[I" (some 0) with kind := .array 18 .int, interfaces := #[15, 4], accessFlags := 1041 }

/-- the primitive long -/
def k20 : Class := { plain "long" none with kind := .primitive 'J', accessFlags := 0x411 }
/-- [J -/
def k21 : Class := { plain "[J" (some 0) with kind := .array 20 .long, interfaces := #[15, 4], accessFlags := 1041 }

def heap : Heap := #[]
def classes : Array Class := #[k0, k1, k2, k3, k4, k5, k6, k7, k8, k9, k10, k11, k12, k13, k14, k15, k16, k17, k18, k19, k20, k21]
def interned : List (Array UInt16 × Addr) := []
def slotsUsed : Nat := 0
def theMethod : MethodId := ⟨1, 1⟩
def args0 : Array Value := #[.int 5, .long 5, .int 5]
def aboutOver (below : List Frame) : State where
  vm := { classes := classes, interned := interned.toArray }
  heap := heap
  slotsUsed := slotsUsed
  threads := #[{ frames := .invoking theMethod args0 :: below }]
def below0 : List Frame := [.native { method := ⟨0, 0⟩, args := #[] }]
def about1 : State := aboutOver below0
def p0 : Program := .bare "" "" ""
def e0 : Env := launch0.env 0 0 0
theorem w_frames : about1.frames = Frame.invoking theMethod args0 :: below0 := rfl
set_option maxRecDepth 65536 in
theorem w_args : argsFit about1.vm theMethod args0 = true := by decide +kernel
set_option maxRecDepth 65536 in
theorem w_heap : heapFits about1 = true := by decide +kernel
set_option maxRecDepth 65536 in
theorem w_runnable : about1.curStatus? = some .runnable := by decide +kernel
set_option maxRecDepth 65536 in
theorem w_alone : about1.alone = true := by decide +kernel
set_option maxRecDepth 65536 in
theorem w_named : about1.methodNamed? x = some theMethod := by decide +kernel
set_option maxRecDepth 65536 in
theorem w_hears : about1.hears theMethod below0 = true := by decide +kernel
set_option maxRecDepth 65536 in
theorem w_ripe : about1.ripe theMethod args0 below0 = true := by decide +kernel
theorem w_running : about1.status = .running := rfl
set_option maxRecDepth 65536 in
theorem w_room : about1.hasRoom e0.platform room_1 = true :=
  launch0.hasRoom_least _ room_1 (by decide +kernel) (by decide +kernel) (by decide +kernel) (by decide +kernel) (by decide +kernel) (by decide +kernel)
theorem allAtoms_all (ts : List Jvm.Cond) (a : Array Jvm.Value) (st : Jvm.State) : (allAtoms ts).before a st = ts.all (fun c => c.before a st) := by
  induction ts with
  | nil => rfl
  | cons c t ih =>
    show (Jvm.Cond.and c (allAtoms t)).before a st = _
    rw [Jvm.Cond.before_and, ih, List.all_cons]
def words1 : List Jvm.Cond := Jvm.Cond.code x code maxLocals ret :: tables_1
/-- a 'code' word, met by the world's own term for the bytes: nothing is compared byte by byte -/
theorem code_word {y : MethodName} {bytes : ByteArray} {mx : Nat} {rt : Option FieldType} {a : Array Value} {s : State} {m : MethodId} {meth : Method} {c : Code} (h1 : s.methodNamed? y = some m) (h2 : s.vm.method? m = some meth) (h3 : meth.code = some c) (h4 : c.code = bytes)
    (h5 : (c.maxLocals == mx && c.exceptionTable.isEmpty && decide (c.maxStack ≤ mostOperands) && decide (meth.sig.returnType = rt) && !meth.locks && decide (parseMethodDescriptor y.desc = some meth.sig)) = true) : (Jvm.Cond.code y bytes mx rt).before a s = true := by
  simp only [Bool.and_eq_true, beq_iff_eq, Bool.not_eq_true', decide_eq_true_eq] at h5
  obtain ⟨⟨⟨⟨⟨g1, g2⟩, g3⟩, g4⟩, g5⟩, g6⟩ := h5
  simp [Cond.before, Cond.holds, Cond.value, h1, h2, h3, h4, g1, g2, g3, g4, g5, g6]
def isCode : Jvm.Cond → Bool
  | .code _ _ _ _ => true
  | _ => false
theorem all_split {L : List Jvm.Cond} {P : Jvm.Cond → Bool} (h1 : L.all (fun c => isCode c || P c) = true) (h2 : ∀ c ∈ L.filter isCode, P c = true) : L.all P = true := by
  refine List.all_eq_true.mpr fun c hc => ?_
  have h := List.all_eq_true.mp h1 c hc
  rcases Bool.eq_false_or_eq_true (isCode c) with hi | hi
  · exact h2 c (List.mem_filter.mpr ⟨hc, hi⟩)
  · simpa [hi] using h
set_option maxRecDepth 65536 in
theorem w_c0 : (Jvm.Cond.code x code maxLocals ret).before args0 about1 = true := code_word (m := ⟨1, 1⟩) (meth := k1m1) (c := k1c1) (by decide +kernel) rfl rfl rfl (by decide +kernel)
set_option maxRecDepth 65536 in
theorem w_c1 : (Jvm.Cond.code ({ cls := "java/lang/Math", name := "max", desc := "(II)I" } : Jvm.MethodName) jdk_29_method_65_code (2 : Nat) (Option.some Jvm.ClassFile.FieldType.int)).before args0 about1 = true := code_word (m := ⟨2, 1⟩) (meth := k2m1) (c := k2c1) (by decide +kernel) rfl rfl rfl (by decide +kernel)
set_option maxRecDepth 65536 in
theorem w_c2 : (Jvm.Cond.code ({ cls := "com/example/geodesic/geodesic/graph/IdIndex", name := "<init>", desc := "(Ljava/lang/String;I)V" } : Jvm.MethodName) prog_15_method_1_code (3 : Nat) (Option.none : Option Jvm.ClassFile.FieldType)).before args0 about1 = true := code_word (m := ⟨3, 0⟩) (meth := k3m0) (c := k3c0) (by decide +kernel) rfl rfl rfl (by decide +kernel)
set_option maxRecDepth 65536 in
theorem w_c3 : (Jvm.Cond.code ({ cls := "java/lang/Object", name := "<init>", desc := "()V" } : Jvm.MethodName) object_method_1_code (1 : Nat) (Option.none : Option Jvm.ClassFile.FieldType)).before args0 about1 = true := code_word (m := ⟨0, 0⟩) (meth := k0m0) (c := k0c0) (by decide +kernel) rfl rfl rfl (by decide +kernel)
set_option maxRecDepth 65536 in
theorem w_c4 : (Jvm.Cond.code ({ cls := "com/example/geodesic/geodesic/graph/IdIndex", name := "allocateTable", desc := "(I)V" } : Jvm.MethodName) prog_15_method_13_code (8 : Nat) (Option.none : Option Jvm.ClassFile.FieldType)).before args0 about1 = true := code_word (m := ⟨3, 7⟩) (meth := k3m7) (c := k3c7) (by decide +kernel) rfl rfl rfl (by decide +kernel)
set_option maxRecDepth 65536 in
theorem w_c5 : (Jvm.Cond.code ({ cls := "java/lang/Long", name := "numberOfLeadingZeros", desc := "(J)I" } : Jvm.MethodName) jdk_35_method_48_code (3 : Nat) (Option.some Jvm.ClassFile.FieldType.int)).before args0 about1 = true := code_word (m := ⟨11, 0⟩) (meth := k11m0) (c := k11c0) (by decide +kernel) rfl rfl rfl (by decide +kernel)
set_option maxRecDepth 65536 in
theorem w_c6 : (Jvm.Cond.code ({ cls := "java/lang/Integer", name := "numberOfLeadingZeros", desc := "(I)I" } : Jvm.MethodName) jdk_33_method_47_code (2 : Nat) (Option.some Jvm.ClassFile.FieldType.int)).before args0 about1 = true := code_word (m := ⟨12, 0⟩) (meth := k12m0) (c := k12c0) (by decide +kernel) rfl rfl rfl (by decide +kernel)
set_option maxRecDepth 65536 in
theorem w_c7 : (Jvm.Cond.code ({ cls := "java/util/Arrays", name := "fill", desc := "([II)V" } : Jvm.MethodName) jdk_65_method_103_code (4 : Nat) (Option.none : Option Jvm.ClassFile.FieldType)).before args0 about1 = true := code_word (m := ⟨13, 1⟩) (meth := k13m1) (c := k13c1) (by decide +kernel) rfl rfl rfl (by decide +kernel)
set_option maxRecDepth 65536 in
theorem w_c8 : (Jvm.Cond.code ({ cls := "com/example/geodesic/geodesic/graph/IdIndex", name := "memoryBytes", desc := "()J" } : Jvm.MethodName) prog_15_method_8_code (1 : Nat) (Option.some Jvm.ClassFile.FieldType.long)).before args0 about1 = true := code_word (m := ⟨3, 2⟩) (meth := k3m2) (c := k3c2) (by decide +kernel) rfl rfl rfl (by decide +kernel)
set_option maxRecDepth 65536 in
theorem w_c9 : (Jvm.Cond.code ({ cls := "com/example/geodesic/geodesic/graph/IdIndex", name := "add", desc := "(J)I" } : Jvm.MethodName) prog_15_method_5_code (5 : Nat) (Option.some Jvm.ClassFile.FieldType.int)).before args0 about1 = true := code_word (m := ⟨3, 1⟩) (meth := k3m1) (c := k3c1) (by decide +kernel) rfl rfl rfl (by decide +kernel)
set_option maxRecDepth 65536 in
theorem w_c10 : (Jvm.Cond.code ({ cls := "com/example/geodesic/geodesic/graph/IdIndex", name := "probe", desc := "(J)I" } : Jvm.MethodName) prog_15_method_11_code (4 : Nat) (Option.some Jvm.ClassFile.FieldType.int)).before args0 about1 = true := code_word (m := ⟨3, 5⟩) (meth := k3m5) (c := k3c5) (by decide +kernel) rfl rfl rfl (by decide +kernel)
set_option maxRecDepth 65536 in
theorem w_c11 : (Jvm.Cond.code ({ cls := "com/example/geodesic/geodesic/graph/IdIndex", name := "home", desc := "(J)I" } : Jvm.MethodName) prog_15_method_12_code (3 : Nat) (Option.some Jvm.ClassFile.FieldType.int)).before args0 about1 = true := code_word (m := ⟨3, 6⟩) (meth := k3m6) (c := k3c6) (by decide +kernel) rfl rfl rfl (by decide +kernel)
set_option maxRecDepth 65536 in
theorem w_c12 : (Jvm.Cond.code ({ cls := "com/example/geodesic/geodesic/graph/IdIndex", name := "insert", desc := "(IJI)V" } : Jvm.MethodName) prog_15_method_10_code (5 : Nat) (Option.none : Option Jvm.ClassFile.FieldType)).before args0 about1 = true := code_word (m := ⟨3, 4⟩) (meth := k3m4) (c := k3c4) (by decide +kernel) rfl rfl rfl (by decide +kernel)
set_option maxRecDepth 65536 in
theorem w_c13 : (Jvm.Cond.code ({ cls := "com/example/geodesic/geodesic/graph/IdIndex", name := "trim", desc := "()V" } : Jvm.MethodName) prog_15_method_9_code (1 : Nat) (Option.none : Option Jvm.ClassFile.FieldType)).before args0 about1 = true := code_word (m := ⟨3, 3⟩) (meth := k3m3) (c := k3c3) (by decide +kernel) rfl rfl rfl (by decide +kernel)
set_option maxRecDepth 65536 in
theorem w_c14 : (Jvm.Cond.code ({ cls := "java/util/Arrays", name := "copyOf", desc := "([JI)[J" } : Jvm.MethodName) jdk_65_method_124_code (3 : Nat) (Option.some (Jvm.ClassFile.FieldType.array Jvm.ClassFile.FieldType.long))).before args0 about1 = true := code_word (m := ⟨13, 2⟩) (meth := k13m2) (c := k13c2) (by decide +kernel) rfl rfl rfl (by decide +kernel)
set_option maxRecDepth 65536 in
theorem w_c15 : (Jvm.Cond.code ({ cls := "java/lang/Math", name := "min", desc := "(II)I" } : Jvm.MethodName) jdk_29_method_69_code (2 : Nat) (Option.some Jvm.ClassFile.FieldType.int)).before args0 about1 = true := code_word (m := ⟨2, 2⟩) (meth := k2m2) (c := k2c2) (by decide +kernel) rfl rfl rfl (by decide +kernel)
def codes1 : List Jvm.Cond := [Jvm.Cond.code x code maxLocals ret, Jvm.Cond.code ({ cls := "java/lang/Math", name := "max", desc := "(II)I" } : Jvm.MethodName) jdk_29_method_65_code (2 : Nat) (Option.some Jvm.ClassFile.FieldType.int), Jvm.Cond.code ({ cls := "com/example/geodesic/geodesic/graph/IdIndex", name := "<init>", desc := "(Ljava/lang/String;I)V" } : Jvm.MethodName) prog_15_method_1_code (3 : Nat) (Option.none : Option Jvm.ClassFile.FieldType), Jvm.Cond.code ({ cls := "java/lang/Object", name := "<init>", desc := "()V" } : Jvm.MethodName) object_method_1_code (1 : Nat) (Option.none : Option Jvm.ClassFile.FieldType), Jvm.Cond.code ({ cls := "com/example/geodesic/geodesic/graph/IdIndex", name := "allocateTable", desc := "(I)V" } : Jvm.MethodName) prog_15_method_13_code (8 : Nat) (Option.none : Option Jvm.ClassFile.FieldType), Jvm.Cond.code ({ cls := "java/lang/Long", name := "numberOfLeadingZeros", desc := "(J)I" } : Jvm.MethodName) jdk_35_method_48_code (3 : Nat) (Option.some Jvm.ClassFile.FieldType.int), Jvm.Cond.code ({ cls := "java/lang/Integer", name := "numberOfLeadingZeros", desc := "(I)I" } : Jvm.MethodName) jdk_33_method_47_code (2 : Nat) (Option.some Jvm.ClassFile.FieldType.int), Jvm.Cond.code ({ cls := "java/util/Arrays", name := "fill", desc := "([II)V" } : Jvm.MethodName) jdk_65_method_103_code (4 : Nat) (Option.none : Option Jvm.ClassFile.FieldType), Jvm.Cond.code ({ cls := "com/example/geodesic/geodesic/graph/IdIndex", name := "memoryBytes", desc := "()J" } : Jvm.MethodName) prog_15_method_8_code (1 : Nat) (Option.some Jvm.ClassFile.FieldType.long), Jvm.Cond.code ({ cls := "com/example/geodesic/geodesic/graph/IdIndex", name := "add", desc := "(J)I" } : Jvm.MethodName) prog_15_method_5_code (5 : Nat) (Option.some Jvm.ClassFile.FieldType.int), Jvm.Cond.code ({ cls := "com/example/geodesic/geodesic/graph/IdIndex", name := "probe", desc := "(J)I" } : Jvm.MethodName) prog_15_method_11_code (4 : Nat) (Option.some Jvm.ClassFile.FieldType.int), Jvm.Cond.code ({ cls := "com/example/geodesic/geodesic/graph/IdIndex", name := "home", desc := "(J)I" } : Jvm.MethodName) prog_15_method_12_code (3 : Nat) (Option.some Jvm.ClassFile.FieldType.int), Jvm.Cond.code ({ cls := "com/example/geodesic/geodesic/graph/IdIndex", name := "insert", desc := "(IJI)V" } : Jvm.MethodName) prog_15_method_10_code (5 : Nat) (Option.none : Option Jvm.ClassFile.FieldType), Jvm.Cond.code ({ cls := "com/example/geodesic/geodesic/graph/IdIndex", name := "trim", desc := "()V" } : Jvm.MethodName) prog_15_method_9_code (1 : Nat) (Option.none : Option Jvm.ClassFile.FieldType), Jvm.Cond.code ({ cls := "java/util/Arrays", name := "copyOf", desc := "([JI)[J" } : Jvm.MethodName) jdk_65_method_124_code (3 : Nat) (Option.some (Jvm.ClassFile.FieldType.array Jvm.ClassFile.FieldType.long)), Jvm.Cond.code ({ cls := "java/lang/Math", name := "min", desc := "(II)I" } : Jvm.MethodName) jdk_29_method_69_code (2 : Nat) (Option.some Jvm.ClassFile.FieldType.int)]
set_option maxRecDepth 65536 in
theorem codes_eq : words1.filter isCode = codes1 := rfl
theorem w_codes : ∀ c ∈ words1.filter isCode, c.before args0 about1 = true := by
  rw [codes_eq]
  intro c hc
  simp only [codes1, List.mem_cons, List.not_mem_nil, or_false] at hc
  rcases hc with rfl | rfl | rfl | rfl | rfl | rfl | rfl | rfl | rfl | rfl | rfl | rfl | rfl | rfl | rfl | rfl
  · exact w_c0
  · exact w_c1
  · exact w_c2
  · exact w_c3
  · exact w_c4
  · exact w_c5
  · exact w_c6
  · exact w_c7
  · exact w_c8
  · exact w_c9
  · exact w_c10
  · exact w_c11
  · exact w_c12
  · exact w_c13
  · exact w_c14
  · exact w_c15
set_option maxRecDepth 65536 in
theorem w_t1 : (words1.take 24).all (fun c => isCode c || c.before args0 about1) = true := by decide +kernel
set_option maxRecDepth 65536 in
theorem w_t2 : ((words1.drop 24).take 24).all (fun c => isCode c || c.before args0 about1) = true := by decide +kernel
set_option maxRecDepth 65536 in
theorem w_t3 : (((words1.drop 24).drop 24).take 24).all (fun c => isCode c || c.before args0 about1) = true := by decide +kernel
set_option maxRecDepth 65536 in
theorem w_t4 : ((((words1.drop 24).drop 24).drop 24).take 24).all (fun c => isCode c || c.before args0 about1) = true := by decide +kernel
set_option maxRecDepth 65536 in
theorem w_t5 : ((((words1.drop 24).drop 24).drop 24).drop 24).all (fun c => isCode c || c.before args0 about1) = true := by decide +kernel
theorem w_tables : (allAtoms (Jvm.Cond.code x code maxLocals ret :: tables_1)).before args0 about1 = true := by
  rw [allAtoms_all]
  show words1.all (fun c => c.before args0 about1) = true
  refine all_split ?_ w_codes
  rw [← List.take_append_drop 24 words1, List.all_append, w_t1, ← List.take_append_drop 24 (words1.drop 24), List.all_append, w_t2, ← List.take_append_drop 24 ((words1.drop 24).drop 24), List.all_append, w_t3, ← List.take_append_drop 24 (((words1.drop 24).drop 24).drop 24), List.all_append, w_t4, w_t5]
  rfl
set_option maxRecDepth 65536 in
theorem w_case : (Jvm.Cond.and given_1 narrow_1).before args0 about1 = true := by decide +kernel
theorem w_applies : (headSpec (Jvm.Cond.code x code maxLocals ret :: tables_1) room_1).applies x e0.platform about1 = true :=
  (Spec.applies_iff w_frames).mpr ⟨w_running, w_runnable, w_alone, w_named, w_hears, w_ripe, w_room, w_tables⟩
theorem atStart : AtStart classFile x code maxLocals ret World_1 tables_1 room_1 Calls_1 rest_1 Pre_1 launch0 p0 e0 about1 theMethod args0 below0 :=
  ⟨lists_1, trivial, launch0.admits_env _ _ _, launch0.least_env, fairChoices_fair.cas, fairChoices_fair.clock, w_frames, w_args, w_heap, w_applies, trivial, trivial, w_case⟩
end start1
theorem witness_1 : WitnessClaimed_1 := ⟨start1.p0, start1.e0, start1.about1, start1.theMethod, start1.args0, start1.below0, start1.atStart⟩
end Jvm.Pilot.@@N@@
