import JvmDerived
import JvmDerived.Pilot.@@N@@Statement
import JvmDerived.Pilot.@@N@@Code
set_option linter.unusedVariables false
set_option linter.unusedSimpArgs false
@@BLOCK:NumsL.lean.txt@@
namespace Jvm.Pilot.@@N@@
open Jvm Jvm.ClassFile Sem Op Lib Jvm.Free Jvm.Stand Jvm.LawKit Jvm.RoadKit Bundle Jvm.Pilot.@@N@@.Jvm.D

/-! the walk's own small kit: from the frame g over the state T the body comes to its end, with Φ -/
def own_Go (p : Program) (e : Env) (below : List Frame) (T : State) (g : JFrame) (Φ : Outcome → State → Prop) : Prop :=
  ∃ s₂ o, Steps p.tables e below (T.setTop g) s₂ ∧ s₂.status = .running ∧ Ended s₂ below o ∧ Φ o s₂
def own_Fin (s : State) (Q : Option Value → Heap → List Loc → Prop) (k j : Nat) (o : Outcome) (U' : State) : Prop :=
  ∃ v L, o = .returned v ∧ Q v U'.heap L ∧ FrameEnd s o U' L k j
theorem own_by {p : Program} {e : Env} {below : List Frame} {T T' : State} {g g' : JFrame} {Φ : Outcome → State → Prop}
    (h : ∀ t, Steps p.tables e below (T'.setTop g') t → Steps p.tables e below (T.setTop g) t) (k : own_Go p e below T' g' Φ) : own_Go p e below T g Φ := by
  obtain ⟨s₂, o, h1, h2⟩ := k
  exact ⟨s₂, o, h _ h1, h2⟩
theorem own_start {p : Program} {e : Env} {below : List Frame} {s T : State} {g g' : JFrame} {Q : Option Value → Heap → List Loc → Prop} {k j : Nat} (hg : g = g')
    (h : own_Go p e below T g' (own_Fin s Q k j)) : ∃ s₂ o, Steps p.tables e below (T.setTop g) s₂ ∧ s₂.status = .running ∧ Ended s₂ below o ∧ ∃ v L, o = .returned v ∧ Q v s₂.heap L ∧ FrameEnd s o s₂ L k j := by
  subst hg
  exact h
section OwnRet
variable {p : Program} {l : Launch} {e : Env} {R : Room} {s : State} {m : MethodId} {args : Array Value} {below : List Frame} {meth : Method} {c : Code} {T : State} {locs : List Loc} {cells slots : Nat} {Q : Option Value → Heap → List Loc → Prop} {k j pc : Nat} {Ls : Array Slot} {rest : List Value}
theorem own_retN {t : FieldType} (ht : t = .boolean ∨ t = .byte ∨ t = .char ∨ t = .short) (X : Stand p l e R s m args below meth c T locs cells slots) (hx : p.tables.exec = Jvm.exec) (hret : meth.sig.returnType = some t) (hlk : meth.locks = false) {z : Int32} (hd : decode c.code pc = .ok (.ireturn, 1))
    (hz : nar t z = z) (hk : cells ≤ k) (hj : slots ≤ j) (q : Q (some (.int z)) T.heap locs) : own_Go p e below T (mkF m pc Ls (.int z :: rest)) (own_Fin s Q k j) := by
  obtain ⟨fs, hr, hrun, hended, hW, hsame⟩ := X.leave (v := some (.int z)) (fun h => by rw [hret] at h; cases h)
  exact ⟨_, _, retN X hx hret ht hd (by rw [hz]; exact hr), hrun, hended, _, _, rfl, q, ⟨_, rfl⟩, hW, hsame.mono hk hj⟩
theorem own_retZ (X : Stand p l e R s m args below meth c T locs cells slots) (hx : p.tables.exec = Jvm.exec) (hret : meth.sig.returnType = some .boolean) (hlk : meth.locks = false) {z : Int32} (hd : decode c.code pc = .ok (.ireturn, 1))
    (hz : nar .boolean z = z) (hk : cells ≤ k) (hj : slots ≤ j) (q : Q (some (.int z)) T.heap locs) : own_Go p e below T (mkF m pc Ls (.int z :: rest)) (own_Fin s Q k j) := own_retN (Or.inl rfl) X hx hret hlk hd hz hk hj q
theorem own_retI (X : Stand p l e R s m args below meth c T locs cells slots) (hx : p.tables.exec = Jvm.exec) (hret : meth.sig.returnType = some .int) (hlk : meth.locks = false) {z : Int32} (hd : decode c.code pc = .ok (.ireturn, 1))
    (hk : cells ≤ k) (hj : slots ≤ j) (q : Q (some (.int z)) T.heap locs) : own_Go p e below T (mkF m pc Ls (.int z :: rest)) (own_Fin s Q k j) := by
  obtain ⟨fs, hr, hrun, hended, hW, hsame⟩ := X.leave (v := some (.int z)) (fun h => by rw [hret] at h; cases h)
  exact ⟨_, _, retOut X hx hret rfl (Or.inl ⟨rfl, Or.inl rfl, z, rfl⟩) hd hr, hrun, hended, _, _, rfl, q, ⟨_, rfl⟩, hW, hsame.mono hk hj⟩
theorem own_retJ (X : Stand p l e R s m args below meth c T locs cells slots) (hx : p.tables.exec = Jvm.exec) (hret : meth.sig.returnType = some .long) (hlk : meth.locks = false) {z : Int64} (hd : decode c.code pc = .ok (.lreturn, 1))
    (hk : cells ≤ k) (hj : slots ≤ j) (q : Q (some (.long z)) T.heap locs) : own_Go p e below T (mkF m pc Ls (.long z :: rest)) (own_Fin s Q k j) := by
  obtain ⟨fs, hr, hrun, hended, hW, hsame⟩ := X.leave (v := some (.long z)) (fun h => by rw [hret] at h; cases h)
  exact ⟨_, _, retOut X hx hret rfl (Or.inr (Or.inl ⟨rfl, rfl, z, rfl⟩)) hd hr, hrun, hended, _, _, rfl, q, ⟨_, rfl⟩, hW, hsame.mono hk hj⟩
theorem own_retA {t : FieldType} (X : Stand p l e R s m args below meth c T locs cells slots) (hx : p.tables.exec = Jvm.exec) (hret : meth.sig.returnType = some t) (hlk : meth.locks = false) {z : Value} (hd : decode c.code pc = .ok (.areturn, 1))
    (ht : t.isReference = true) (hz : z.isRef = true) (hn : narrow t z = z) (hk : cells ≤ k) (hj : slots ≤ j) (q : Q (some z) T.heap locs) : own_Go p e below T (mkF m pc Ls (z :: rest)) (own_Fin s Q k j) := by
  obtain ⟨fs, hr, hrun, hended, hW, hsame⟩ := X.leave (v := some z) (fun h => by rw [hret] at h; cases h)
  exact ⟨_, _, retOut X hx hret hn (Or.inr (Or.inr (Or.inr (Or.inr ⟨rfl, ht, hz⟩)))) hd hr, hrun, hended, _, _, rfl, q, ⟨_, rfl⟩, hW, hsame.mono hk hj⟩
theorem own_retV (X : Stand p l e R s m args below meth c T locs cells slots) (hx : p.tables.exec = Jvm.exec) (hret : meth.sig.returnType = none) (hlk : meth.locks = false) (hd : decode c.code pc = .ok (.return_, 1))
    (hk : cells ≤ k) (hj : slots ≤ j) (q : Q none T.heap locs) : own_Go p e below T (mkF m pc Ls []) (own_Fin s Q k j) := by
  obtain ⟨fs, hr, hrun, hended, hW, hsame⟩ := X.leave (v := none) (fun _ => rfl)
  exact ⟨_, _, X.returnOut hx hret hd hr, hrun, hended, _, _, rfl, q, ⟨_, rfl⟩, hW, hsame.mono hk hj⟩
theorem own_lrem_eq (x y : Int64) : x - x / y * y = x % y := Int64.toInt_inj.mp (by rw [Jvm.Kit.i64_rem, Int64.toInt_mod])
theorem own_lrem {g : JFrame} {target : State} (X : Stand p l e R s m args below meth c T locs cells slots) (hx : p.tables.exec = Jvm.exec) (hg : g.method = m) {x y : Int64} {rest : List Value} (hd : decode c.code g.pc = .ok (.lrem, 1)) (hs : g.stack = .long y :: .long x :: rest) (hy : y ≠ 0)
    (hr : Steps p.tables e below (T.setTop { g with pc := g.pc + 1, stack := .long (x % y) :: rest }) target) : Steps p.tables e below (T.setTop g) target :=
  XS.lrem X.here hx hg hd hs hy (by rw [own_lrem_eq x y]; exact hr)
end OwnRet
/-! an array: its length, and what each place holds -/
abbrev own_At (j : Int32) (k : Nat) : Prop := ¬ j < 0 ∧ j.toNatClampNeg = k
def own_upd (f : Nat → Value) (k : Nat) (v : Value) : Nat → Value := fun i => if i = k then v else f i
theorem own_upd_hit {f : Nat → Value} {k i : Nat} {v : Value} (h : i = k) : own_upd f k v i = v := if_pos h
theorem own_upd_miss {f : Nat → Value} {k i : Nat} {v : Value} (h : ¬ i = k) : own_upd f k v i = f i := if_neg h
def own_Av (Z : State) (h : Heap) (a : Addr) (ty : FieldType) (n : Nat) (f : Nat → Value) : Prop := ∃ c : Cell, Arr Z h a c ty ∧ c.slots.size = n ∧ ∀ i, i < n → c.slots[i]? = some (f i)
section OwnArr
variable {Z : State} {h h' : Heap} {a b : Addr} {ty : FieldType} {n k sl : Nat} {f : Nat → Value} {v : Value} {ws : List Addr}
theorem own_Av.ext (F : own_Av Z h a ty n f) (E : Ext h h') : own_Av Z h' a ty n f := by obtain ⟨c, A, r⟩ := F; exact ⟨c, A.ext E, r⟩
theorem own_Av.other (F : own_Av Z h b ty n f) (W : Wr h h' a sl v) (q : b ≠ a) : own_Av Z h' b ty n f := by obtain ⟨c, A, r⟩ := F; exact ⟨c, A.other W q, r⟩
theorem own_Av.keep (F : own_Av Z h a ty n f) (K : Keep h h' ws) (q : a ∉ ws) : own_Av Z h' a ty n f := by obtain ⟨c, A, r⟩ := F; exact ⟨c, ⟨K.2.1 a c A.1 q, A.2⟩, r⟩
theorem own_Av.lt (F : own_Av Z h a ty n f) : a < h.size := by obtain ⟨c, A, -⟩ := F; exact A.lt
theorem own_Av.ofnew {z : Int32} {kc : ClassId} {d : Value} (A : Arr Z h a (newA kc ty z) ty) (hn : z.toNatClampNeg = n) (hd : defaultValue ty = d) : own_Av Z h a ty n (fun _ => d) := by
  subst hn hd
  exact ⟨_, A, sz_new _ _ _, fun i hi => by simp [newA, hi]⟩
theorem own_Av.set (F : own_Av Z h a ty n f) (W : Wr h h' a k v) : own_Av Z h' a ty n (own_upd f k v) := by
  obtain ⟨c, A, S, H⟩ := F
  refine ⟨_, A.same W, by rw [sz_set]; exact S, fun i hi => ?_⟩
  by_cases q : i = k
  · subst q
    rw [own_upd_hit rfl]
    simp [Cell.setSlot, S, hi]
  · rw [own_upd_miss q, ← H i hi]
    exact Array.getElem?_setIfInBounds_ne fun u => q u.symm
theorem own_Av.cong {g : Nat → Value} {n' : Nat} (F : own_Av Z h a ty n f) (hn : n = n') (q : ∀ i, i < n → f i = g i) : own_Av Z h a ty n' g := by
  subst hn
  obtain ⟨c, A, S, H⟩ := F
  exact ⟨c, A, S, fun i hi => by rw [← q i hi]; exact H i hi⟩
theorem own_in {j : Int32} (hj : own_At j k) (hk : k < n) {c : Cell} (S : c.slots.size = n) : ¬ (j < 0 ∨ c.slots.size ≤ j.toNatClampNeg) := by
  intro q
  rcases q with q | q
  · exact hj.1 q
  · rw [hj.2, S] at q; omega
variable {p : Program} {l : Launch} {e : Env} {R : Room} {s : State} {m : MethodId} {args : Array Value} {below : List Frame} {meth : Method} {c : Code} {T : State} {locs : List Loc} {cells slots : Nat}
theorem own_ldI (X : Stand p l e R s m args below meth c T locs cells slots) (hx : p.tables.exec = Jvm.exec) (hZ : Z.Warmed39 s.vm) (eT : T.heap = h) (F : own_Av Z h a .int n f) {j : Int32} (hj : own_At j k) (hk : k < n) (hv : f k = v)
    {g : JFrame} (hg : g.method = m) {rest : List Value} (hs : g.stack = .int j :: .ref a :: rest) (hd : decode c.code g.pc = .ok (.iaload, 1)) (t : State)
    (hr : Steps p.tables e below (T.setTop { g with pc := g.pc + 1, stack := v :: rest }) t) : Steps p.tables e below (T.setTop g) t := by
  obtain ⟨cl, A, S, H⟩ := F
  exact X.iaload hx (by rw [eT]; exact A.1) (State.isArrayOf_alike hZ.alike A.2.1) A.2.2 (own_in hj hk S) (by rw [hj.2, H k hk, hv]) hg hs hd t hr
theorem own_ldJ (X : Stand p l e R s m args below meth c T locs cells slots) (hx : p.tables.exec = Jvm.exec) (hZ : Z.Warmed39 s.vm) (eT : T.heap = h) (F : own_Av Z h a .long n f) {j : Int32} (hj : own_At j k) (hk : k < n) (hv : f k = v)
    {g : JFrame} (hg : g.method = m) {rest : List Value} (hs : g.stack = .int j :: .ref a :: rest) (hd : decode c.code g.pc = .ok (.laload, 1)) (t : State)
    (hr : Steps p.tables e below (T.setTop { g with pc := g.pc + 1, stack := v :: rest }) t) : Steps p.tables e below (T.setTop g) t := by
  obtain ⟨cl, A, S, H⟩ := F
  exact X.laload hx (by rw [eT]; exact A.1) (State.isArrayOf_alike hZ.alike A.2.1) A.2.2 (own_in hj hk S) (by rw [hj.2, H k hk, hv]) hg hs hd t hr
theorem own_ldS (X : Stand p l e R s m args below meth c T locs cells slots) (hx : p.tables.exec = Jvm.exec) (hZ : Z.Warmed39 s.vm) (eT : T.heap = h) (F : own_Av Z h a .short n f) {j : Int32} (hj : own_At j k) (hk : k < n) (hv : f k = v)
    {g : JFrame} (hg : g.method = m) {rest : List Value} (hs : g.stack = .int j :: .ref a :: rest) (hd : decode c.code g.pc = .ok (.saload, 1)) (t : State)
    (hr : Steps p.tables e below (T.setTop { g with pc := g.pc + 1, stack := v :: rest }) t) : Steps p.tables e below (T.setTop g) t := by
  obtain ⟨cl, A, S, H⟩ := F
  exact X.saload hx (by rw [eT]; exact A.1) (State.isArrayOf_alike hZ.alike A.2.1) A.2.2 (own_in hj hk S) (by rw [hj.2, H k hk, hv]) hg hs hd t hr
theorem own_ldC (X : Stand p l e R s m args below meth c T locs cells slots) (hx : p.tables.exec = Jvm.exec) (hZ : Z.Warmed39 s.vm) (eT : T.heap = h) (F : own_Av Z h a .char n f) {j : Int32} (hj : own_At j k) (hk : k < n) (hv : f k = v)
    {g : JFrame} (hg : g.method = m) {rest : List Value} (hs : g.stack = .int j :: .ref a :: rest) (hd : decode c.code g.pc = .ok (.caload, 1)) (t : State)
    (hr : Steps p.tables e below (T.setTop { g with pc := g.pc + 1, stack := v :: rest }) t) : Steps p.tables e below (T.setTop g) t := by
  obtain ⟨cl, A, S, H⟩ := F
  exact X.caload hx (by rw [eT]; exact A.1) (State.isArrayOf_alike hZ.alike A.2.1) A.2.2 (own_in hj hk S) (by rw [hj.2, H k hk, hv]) hg hs hd t hr
theorem own_ldB (X : Stand p l e R s m args below meth c T locs cells slots) (hx : p.tables.exec = Jvm.exec) (hZ : Z.Warmed39 s.vm) (eT : T.heap = h) (F : own_Av Z h a .byte n f) {j : Int32} (hj : own_At j k) (hk : k < n) (hv : f k = v)
    {g : JFrame} (hg : g.method = m) {rest : List Value} (hs : g.stack = .int j :: .ref a :: rest) (hd : decode c.code g.pc = .ok (.baload, 1)) (t : State)
    (hr : Steps p.tables e below (T.setTop { g with pc := g.pc + 1, stack := v :: rest }) t) : Steps p.tables e below (T.setTop g) t := by
  obtain ⟨cl, A, S, H⟩ := F
  exact X.baloadBytes hx (by rw [eT]; exact A.1) (State.isArrayOf_alike hZ.alike A.2.1) A.2.2 (own_in hj hk S) (by rw [hj.2, H k hk, hv]) hg hs hd t hr
theorem own_ldZ (X : Stand p l e R s m args below meth c T locs cells slots) (hx : p.tables.exec = Jvm.exec) (hZ : Z.Warmed39 s.vm) (eT : T.heap = h) (F : own_Av Z h a .boolean n f) {j : Int32} (hj : own_At j k) (hk : k < n) (hv : f k = v)
    {g : JFrame} (hg : g.method = m) {rest : List Value} (hs : g.stack = .int j :: .ref a :: rest) (hd : decode c.code g.pc = .ok (.baload, 1)) (t : State)
    (hr : Steps p.tables e below (T.setTop { g with pc := g.pc + 1, stack := v :: rest }) t) : Steps p.tables e below (T.setTop g) t := by
  obtain ⟨cl, A, S, H⟩ := F
  exact X.baloadBooleans hx (by rw [eT]; exact A.1) (State.isArrayOf_alike hZ.alike A.2.1) A.2.2 (own_in hj hk S) (by rw [hj.2, H k hk, hv]) hg hs hd t hr
theorem own_len (X : Stand p l e R s m args below meth c T locs cells slots) (hx : p.tables.exec = Jvm.exec) (hZ : Z.Warmed39 s.vm) (eT : T.heap = h) (F : own_Av Z h a ty n f) {z : Int32} (hz : n.toInt32 = z)
    {g : JFrame} (hg : g.method = m) {rest : List Value} (hs : g.stack = .ref a :: rest) (hd : decode c.code g.pc = .ok (.arraylength, 1)) (t : State)
    (hr : Steps p.tables e below (T.setTop { g with pc := g.pc + 1, stack := .int z :: rest }) t) : Steps p.tables e below (T.setTop g) t := by
  obtain ⟨cl, A, S, H⟩ := F
  exact X.arraylength hx (by rw [eT]; exact A.1) (State.isArrayOf_alike hZ.alike A.2.1) hg hs hd t (by rw [S, hz]; exact hr)
theorem own_stI (X : Stand p l e R s m args below meth c T locs cells slots) (hx : p.tables.exec = Jvm.exec) (hZ : Z.Warmed39 s.vm) (eT : T.heap = h) (F : own_Av Z h a .int n f) {j x : Int32} (hj : own_At j k) (hk : k < n)
    {g : JFrame} (hg : g.method = m) {rest : List Value} (hs : g.stack = .int x :: .int j :: .ref a :: rest) (hd : decode c.code g.pc = .ok (.iastore, 1)) :
    ∃ T' h', Stand p l e R s m args below meth c T' (locs ++ [⟨a, k⟩]) cells slots ∧ T'.heap = h' ∧ Wr h h' a k (.int x) ∧ own_Av Z h' a .int n (own_upd f k (.int x)) ∧ ∀ target, Steps p.tables e below (T'.setTop { g with pc := g.pc + 1, stack := rest }) target → Steps p.tables e below (T.setTop g) target := by
  obtain ⟨cl, A, S, H⟩ := id F
  obtain ⟨T', h', X', e', W', st⟩ := stI X hx hZ eT A (own_in hj hk S) hg hs hd
  rw [hj.2] at X' W'
  exact ⟨T', h', X', e', W', F.set W', st⟩
theorem own_stJ (X : Stand p l e R s m args below meth c T locs cells slots) (hx : p.tables.exec = Jvm.exec) (hZ : Z.Warmed39 s.vm) (eT : T.heap = h) (F : own_Av Z h a .long n f) {j : Int32} {x : Int64} (hj : own_At j k) (hk : k < n)
    {g : JFrame} (hg : g.method = m) {rest : List Value} (hs : g.stack = .long x :: .int j :: .ref a :: rest) (hd : decode c.code g.pc = .ok (.lastore, 1)) :
    ∃ T' h', Stand p l e R s m args below meth c T' (locs ++ [⟨a, k⟩]) cells slots ∧ T'.heap = h' ∧ Wr h h' a k (.long x) ∧ own_Av Z h' a .long n (own_upd f k (.long x)) ∧ ∀ target, Steps p.tables e below (T'.setTop { g with pc := g.pc + 1, stack := rest }) target → Steps p.tables e below (T.setTop g) target := by
  obtain ⟨cl, A, S, H⟩ := id F
  obtain ⟨T', h', X', e', W', st⟩ := stJ X hx hZ eT A (own_in hj hk S) hg hs hd
  rw [hj.2] at X' W'
  exact ⟨T', h', X', e', W', F.set W', st⟩
theorem own_stB (X : Stand p l e R s m args below meth c T locs cells slots) (hx : p.tables.exec = Jvm.exec) (hZ : Z.Warmed39 s.vm) (eT : T.heap = h) (F : own_Av Z h a .byte n f) {j x : Int32} (hj : own_At j k) (hk : k < n)
    {g : JFrame} (hg : g.method = m) {rest : List Value} (hs : g.stack = .int x :: .int j :: .ref a :: rest) (hd : decode c.code g.pc = .ok (.bastore, 1)) :
    ∃ T' h', Stand p l e R s m args below meth c T' (locs ++ [⟨a, k⟩]) cells slots ∧ T'.heap = h' ∧ Wr h h' a k (.int x.toInt8.toInt32) ∧ own_Av Z h' a .byte n (own_upd f k (.int x.toInt8.toInt32)) ∧ ∀ target, Steps p.tables e below (T'.setTop { g with pc := g.pc + 1, stack := rest }) target → Steps p.tables e below (T.setTop g) target := by
  obtain ⟨cl, A, S, H⟩ := id F
  obtain ⟨T', h', X', e', W', st⟩ := stB X hx hZ eT A (own_in hj hk S) hg hs hd
  rw [hj.2] at X' W'
  exact ⟨T', h', X', e', W', F.set W', st⟩
theorem own_stZ (X : Stand p l e R s m args below meth c T locs cells slots) (hx : p.tables.exec = Jvm.exec) (hZ : Z.Warmed39 s.vm) (eT : T.heap = h) (F : own_Av Z h a .boolean n f) {j x : Int32} (hj : own_At j k) (hk : k < n)
    {g : JFrame} (hg : g.method = m) {rest : List Value} (hs : g.stack = .int x :: .int j :: .ref a :: rest) (hd : decode c.code g.pc = .ok (.bastore, 1)) :
    ∃ T' h', Stand p l e R s m args below meth c T' (locs ++ [⟨a, k⟩]) cells slots ∧ T'.heap = h' ∧ Wr h h' a k (.int (x &&& 1)) ∧ own_Av Z h' a .boolean n (own_upd f k (.int (x &&& 1))) ∧ ∀ target, Steps p.tables e below (T'.setTop { g with pc := g.pc + 1, stack := rest }) target → Steps p.tables e below (T.setTop g) target := by
  obtain ⟨cl, A, S, H⟩ := id F
  obtain ⟨T', h', X', e', W', st⟩ := stZ X hx hZ eT A (own_in hj hk S) hg hs hd
  rw [hj.2] at X' W'
  exact ⟨T', h', X', e', W', F.set W', st⟩
theorem own_stC (X : Stand p l e R s m args below meth c T locs cells slots) (hx : p.tables.exec = Jvm.exec) (hZ : Z.Warmed39 s.vm) (eT : T.heap = h) (F : own_Av Z h a .char n f) {j x : Int32} (hj : own_At j k) (hk : k < n)
    {g : JFrame} (hg : g.method = m) {rest : List Value} (hs : g.stack = .int x :: .int j :: .ref a :: rest) (hd : decode c.code g.pc = .ok (.castore, 1)) :
    ∃ T' h', Stand p l e R s m args below meth c T' (locs ++ [⟨a, k⟩]) cells slots ∧ T'.heap = h' ∧ Wr h h' a k (.int (nar .char x)) ∧ own_Av Z h' a .char n (own_upd f k (.int (nar .char x))) ∧ ∀ target, Steps p.tables e below (T'.setTop { g with pc := g.pc + 1, stack := rest }) target → Steps p.tables e below (T.setTop g) target := by
  obtain ⟨cl, A, S, H⟩ := id F
  obtain ⟨T', h', X', e', W', st⟩ := stC X hx hZ eT A (own_in hj hk S) hg hs hd
  rw [hj.2] at X' W'
  exact ⟨T', h', X', e', W', F.set W', st⟩
theorem own_stS (X : Stand p l e R s m args below meth c T locs cells slots) (hx : p.tables.exec = Jvm.exec) (hZ : Z.Warmed39 s.vm) (eT : T.heap = h) (F : own_Av Z h a .short n f) {j x : Int32} (hj : own_At j k) (hk : k < n)
    {g : JFrame} (hg : g.method = m) {rest : List Value} (hs : g.stack = .int x :: .int j :: .ref a :: rest) (hd : decode c.code g.pc = .ok (.sastore, 1)) :
    ∃ T' h', Stand p l e R s m args below meth c T' (locs ++ [⟨a, k⟩]) cells slots ∧ T'.heap = h' ∧ Wr h h' a k (.int (nar .short x)) ∧ own_Av Z h' a .short n (own_upd f k (.int (nar .short x))) ∧ ∀ target, Steps p.tables e below (T'.setTop { g with pc := g.pc + 1, stack := rest }) target → Steps p.tables e below (T.setTop g) target := by
  obtain ⟨cl, A, S, H⟩ := id F
  obtain ⟨T', h', X', e', W', st⟩ := stS X hx hZ eT A (own_in hj hk S) hg hs hd
  rw [hj.2] at X' W'
  exact ⟨T', h', X', e', W', F.set W', st⟩
end OwnArr
theorem own_selP {Z s : State} {a0 args : Array Value} {y : MethodName} {n : Nat} (hZ : Z.Warmed39 s.vm) (wi : (Cond.instantiable y.cls n).before a0 Z = true) (wp : (Cond.privateMethod y).before a0 Z = true) (wm : (Cond.instanceMethod y).before a0 Z = true)
    (hy : y.cls ≠ "java/lang/invoke/MethodHandle" ∧ y.cls ≠ "java/lang/invoke/VarHandle") : (Cond.selects y.cls y y).before args s = true := by
  have w : (Cond.instantiable y.cls n).before args s = true := mvT hZ wi
  obtain ⟨c, k, h1, h2, -, h4, -⟩ := Cond.instantiable_spec w
  exact Jvm.Stand.selects_self_of_private h1 h2 (Bool.or_eq_false_iff.mp h4).1 (Cond.privateMethod_at (mvP hZ wp (args := args))) (mvT hZ wm) hy
theorem own_narZ {x : Int32} (h : x &&& 1 = x) : narrow .boolean (.int x) = .int x := by
  show Value.int (x &&& 1) = _
  rw [h]
theorem own_fitZ {x : Int32} (h : x &&& 1 = x) : fits .boolean (.int x) = true := by
  have q := fits_nar_bool x
  rw [show nar .boolean x = x from h] at q
  exact q
theorem own_mono {p : Program} {e : Env} {below : List Frame} {s T : State} {g : JFrame} {Q Q' : Option Value → Heap → List Loc → Prop} {k j : Nat} (h : ∀ v h L, Q v h L → Q' v h L) (G : own_Go p e below T g (own_Fin s Q k j)) : own_Go p e below T g (own_Fin s Q' k j) := by
  obtain ⟨s₂, o, h1, h2, h3, v, L, h4, h5, h6⟩ := G
  exact ⟨s₂, o, h1, h2, h3, v, L, h4, h _ _ _ h5, h6⟩
theorem own_ofs (i : Nat) : Int32.ofNat i + (1 : Int32) = Int32.ofNat (i + 1) := (Int32.ofNat_add i 1).symm
theorem own_toI {i : Nat} (h : i < 2147483648) : (Int32.ofNat i).toInt = i := Int32.toInt_ofNat_small h
theorem own_ix {i : Nat} (h : i < 2147483648) : own_At (Int32.ofNat i) i := by
  have e := own_toI h
  refine ⟨?_, ?_⟩
  · rw [Int32.lt_iff_toInt_lt, e, show (0 : Int32).toInt = 0 from by decide]; omega
  · simp only [Int32.toNatClampNeg, e]; omega
theorem own_oflt {i n : Nat} (hi : i < 2147483648) (hn : n < 2147483648) : Int32.ofNat i < Int32.ofNat n ↔ i < n := by
  rw [Int32.lt_iff_toInt_lt, own_toI hi, own_toI hn]; omega
theorem own_ofeq {i n : Nat} (hi : i < 2147483648) (hn : n < 2147483648) : Int32.ofNat i = Int32.ofNat n ↔ i = n := by
  rw [← Int32.toInt_inj, own_toI hi, own_toI hn]; omega
def own_fl (F : Nat → Int32) (i : Nat) (g : Nat → Value) (j : Nat) : Value := if j < i then .int (F j) else g j
theorem own_fl_up (F : Nat → Int32) (i : Nat) (g : Nat → Value) : ∀ j, own_upd (own_fl F i g) i (.int (F i)) j = own_fl F (i + 1) g j := fun j => by
  unfold own_fl
  by_cases q : j = i
  · subst q; rw [own_upd_hit rfl, if_pos (by omega)]
  · rw [own_upd_miss q]
    by_cases q2 : j < i
    · rw [if_pos q2, if_pos (by omega)]
    · rw [if_neg q2, if_neg (by omega)]
theorem own_fl0 (F : Nat → Int32) (g : Nat → Value) : ∀ j, g j = own_fl F 0 g j := fun j => by unfold own_fl; rw [if_neg (by omega)]
theorem own_fl_in {F : Nat → Int32} {i j : Nat} {g : Nat → Value} (h : j < i) : own_fl F i g j = .int (F j) := if_pos h
theorem own_fl_out {F : Nat → Int32} {i j : Nat} {g : Nat → Value} (h : ¬ j < i) : own_fl F i g j = g j := if_neg h

/-! single steps over own_Go -/
theorem own_s_iadd {p : Program} {e : Env} {below : List Frame} {T : State} {m : MethodId} {c : Code} {Φ : Outcome → State → Prop} {pc : Nat} {L : Array Slot} {S : List Value} (h : At T m c below) (hx : p.tables.exec = Jvm.exec) {x y : Int32} (hd : decode c.code pc = .ok (.iadd, 1)) (G : own_Go p e below T (mkF m (pc + 1) L (.int (x + y) :: S)) Φ) : own_Go p e below T (mkF m pc L (.int y :: .int x :: S)) Φ := own_by (fun t k => XS.iadd h hx rfl hd rfl k) G
theorem own_s_isub {p : Program} {e : Env} {below : List Frame} {T : State} {m : MethodId} {c : Code} {Φ : Outcome → State → Prop} {pc : Nat} {L : Array Slot} {S : List Value} (h : At T m c below) (hx : p.tables.exec = Jvm.exec) {x y : Int32} (hd : decode c.code pc = .ok (.isub, 1)) (G : own_Go p e below T (mkF m (pc + 1) L (.int (x - y) :: S)) Φ) : own_Go p e below T (mkF m pc L (.int y :: .int x :: S)) Φ := own_by (fun t k => XS.isub h hx rfl hd rfl k) G
theorem own_s_imul {p : Program} {e : Env} {below : List Frame} {T : State} {m : MethodId} {c : Code} {Φ : Outcome → State → Prop} {pc : Nat} {L : Array Slot} {S : List Value} (h : At T m c below) (hx : p.tables.exec = Jvm.exec) {x y : Int32} (hd : decode c.code pc = .ok (.imul, 1)) (G : own_Go p e below T (mkF m (pc + 1) L (.int (x * y) :: S)) Φ) : own_Go p e below T (mkF m pc L (.int y :: .int x :: S)) Φ := own_by (fun t k => XS.imul h hx rfl hd rfl k) G
theorem own_s_iand {p : Program} {e : Env} {below : List Frame} {T : State} {m : MethodId} {c : Code} {Φ : Outcome → State → Prop} {pc : Nat} {L : Array Slot} {S : List Value} (h : At T m c below) (hx : p.tables.exec = Jvm.exec) {x y : Int32} (hd : decode c.code pc = .ok (.iand, 1)) (G : own_Go p e below T (mkF m (pc + 1) L (.int (x &&& y) :: S)) Φ) : own_Go p e below T (mkF m pc L (.int y :: .int x :: S)) Φ := own_by (fun t k => XS.iand h hx rfl hd rfl k) G
theorem own_s_ior {p : Program} {e : Env} {below : List Frame} {T : State} {m : MethodId} {c : Code} {Φ : Outcome → State → Prop} {pc : Nat} {L : Array Slot} {S : List Value} (h : At T m c below) (hx : p.tables.exec = Jvm.exec) {x y : Int32} (hd : decode c.code pc = .ok (.ior, 1)) (G : own_Go p e below T (mkF m (pc + 1) L (.int (x ||| y) :: S)) Φ) : own_Go p e below T (mkF m pc L (.int y :: .int x :: S)) Φ := own_by (fun t k => XS.ior h hx rfl hd rfl k) G
theorem own_s_ixor {p : Program} {e : Env} {below : List Frame} {T : State} {m : MethodId} {c : Code} {Φ : Outcome → State → Prop} {pc : Nat} {L : Array Slot} {S : List Value} (h : At T m c below) (hx : p.tables.exec = Jvm.exec) {x y : Int32} (hd : decode c.code pc = .ok (.ixor, 1)) (G : own_Go p e below T (mkF m (pc + 1) L (.int (x ^^^ y) :: S)) Φ) : own_Go p e below T (mkF m pc L (.int y :: .int x :: S)) Φ := own_by (fun t k => XS.ixor h hx rfl hd rfl k) G
theorem own_s_ladd {p : Program} {e : Env} {below : List Frame} {T : State} {m : MethodId} {c : Code} {Φ : Outcome → State → Prop} {pc : Nat} {L : Array Slot} {S : List Value} (h : At T m c below) (hx : p.tables.exec = Jvm.exec) {x y : Int64} (hd : decode c.code pc = .ok (.ladd, 1)) (G : own_Go p e below T (mkF m (pc + 1) L (.long (x + y) :: S)) Φ) : own_Go p e below T (mkF m pc L (.long y :: .long x :: S)) Φ := own_by (fun t k => XS.ladd h hx rfl hd rfl k) G
theorem own_s_lsub {p : Program} {e : Env} {below : List Frame} {T : State} {m : MethodId} {c : Code} {Φ : Outcome → State → Prop} {pc : Nat} {L : Array Slot} {S : List Value} (h : At T m c below) (hx : p.tables.exec = Jvm.exec) {x y : Int64} (hd : decode c.code pc = .ok (.lsub, 1)) (G : own_Go p e below T (mkF m (pc + 1) L (.long (x - y) :: S)) Φ) : own_Go p e below T (mkF m pc L (.long y :: .long x :: S)) Φ := own_by (fun t k => XS.lsub h hx rfl hd rfl k) G
theorem own_s_lmul {p : Program} {e : Env} {below : List Frame} {T : State} {m : MethodId} {c : Code} {Φ : Outcome → State → Prop} {pc : Nat} {L : Array Slot} {S : List Value} (h : At T m c below) (hx : p.tables.exec = Jvm.exec) {x y : Int64} (hd : decode c.code pc = .ok (.lmul, 1)) (G : own_Go p e below T (mkF m (pc + 1) L (.long (x * y) :: S)) Φ) : own_Go p e below T (mkF m pc L (.long y :: .long x :: S)) Φ := own_by (fun t k => XS.lmul h hx rfl hd rfl k) G
theorem own_s_land {p : Program} {e : Env} {below : List Frame} {T : State} {m : MethodId} {c : Code} {Φ : Outcome → State → Prop} {pc : Nat} {L : Array Slot} {S : List Value} (h : At T m c below) (hx : p.tables.exec = Jvm.exec) {x y : Int64} (hd : decode c.code pc = .ok (.land, 1)) (G : own_Go p e below T (mkF m (pc + 1) L (.long (x &&& y) :: S)) Φ) : own_Go p e below T (mkF m pc L (.long y :: .long x :: S)) Φ := own_by (fun t k => XS.land h hx rfl hd rfl k) G
theorem own_s_lor {p : Program} {e : Env} {below : List Frame} {T : State} {m : MethodId} {c : Code} {Φ : Outcome → State → Prop} {pc : Nat} {L : Array Slot} {S : List Value} (h : At T m c below) (hx : p.tables.exec = Jvm.exec) {x y : Int64} (hd : decode c.code pc = .ok (.lor, 1)) (G : own_Go p e below T (mkF m (pc + 1) L (.long (x ||| y) :: S)) Φ) : own_Go p e below T (mkF m pc L (.long y :: .long x :: S)) Φ := own_by (fun t k => XS.lor h hx rfl hd rfl k) G
theorem own_s_lxor {p : Program} {e : Env} {below : List Frame} {T : State} {m : MethodId} {c : Code} {Φ : Outcome → State → Prop} {pc : Nat} {L : Array Slot} {S : List Value} (h : At T m c below) (hx : p.tables.exec = Jvm.exec) {x y : Int64} (hd : decode c.code pc = .ok (.lxor, 1)) (G : own_Go p e below T (mkF m (pc + 1) L (.long (x ^^^ y) :: S)) Φ) : own_Go p e below T (mkF m pc L (.long y :: .long x :: S)) Φ := own_by (fun t k => XS.lxor h hx rfl hd rfl k) G
theorem own_s_ishl {p : Program} {e : Env} {below : List Frame} {T : State} {m : MethodId} {c : Code} {Φ : Outcome → State → Prop} {pc : Nat} {L : Array Slot} {S : List Value} (h : At T m c below) (hx : p.tables.exec = Jvm.exec) {x y : Int32} (hd : decode c.code pc = .ok (.ishl, 1)) (G : own_Go p e below T (mkF m (pc + 1) L (.int (x <<< (y &&& 31)) :: S)) Φ) : own_Go p e below T (mkF m pc L (.int y :: .int x :: S)) Φ := own_by (fun t k => XS.ishl h hx rfl hd rfl k) G
theorem own_s_ishr {p : Program} {e : Env} {below : List Frame} {T : State} {m : MethodId} {c : Code} {Φ : Outcome → State → Prop} {pc : Nat} {L : Array Slot} {S : List Value} (h : At T m c below) (hx : p.tables.exec = Jvm.exec) {x y : Int32} (hd : decode c.code pc = .ok (.ishr, 1)) (G : own_Go p e below T (mkF m (pc + 1) L (.int (x >>> (y &&& 31)) :: S)) Φ) : own_Go p e below T (mkF m pc L (.int y :: .int x :: S)) Φ := own_by (fun t k => XS.ishr h hx rfl hd rfl k) G
theorem own_s_iushr {p : Program} {e : Env} {below : List Frame} {T : State} {m : MethodId} {c : Code} {Φ : Outcome → State → Prop} {pc : Nat} {L : Array Slot} {S : List Value} (h : At T m c below) (hx : p.tables.exec = Jvm.exec) {x y : Int32} (hd : decode c.code pc = .ok (.iushr, 1)) (G : own_Go p e below T (mkF m (pc + 1) L (.int ((x.toUInt32 >>> (y &&& 31).toUInt32).toInt32) :: S)) Φ) : own_Go p e below T (mkF m pc L (.int y :: .int x :: S)) Φ := own_by (fun t k => XS.iushr h hx rfl hd rfl k) G
theorem own_s_lshl {p : Program} {e : Env} {below : List Frame} {T : State} {m : MethodId} {c : Code} {Φ : Outcome → State → Prop} {pc : Nat} {L : Array Slot} {S : List Value} (h : At T m c below) (hx : p.tables.exec = Jvm.exec) {x : Int64} {y : Int32} (hd : decode c.code pc = .ok (.lshl, 1)) (G : own_Go p e below T (mkF m (pc + 1) L (.long (x <<< (y &&& 0x3f).toInt64) :: S)) Φ) : own_Go p e below T (mkF m pc L (.int y :: .long x :: S)) Φ := own_by (fun t k => XS.lshl h hx rfl hd rfl k) G
theorem own_s_lshr {p : Program} {e : Env} {below : List Frame} {T : State} {m : MethodId} {c : Code} {Φ : Outcome → State → Prop} {pc : Nat} {L : Array Slot} {S : List Value} (h : At T m c below) (hx : p.tables.exec = Jvm.exec) {x : Int64} {y : Int32} (hd : decode c.code pc = .ok (.lshr, 1)) (G : own_Go p e below T (mkF m (pc + 1) L (.long (x >>> (y &&& 0x3f).toInt64) :: S)) Φ) : own_Go p e below T (mkF m pc L (.int y :: .long x :: S)) Φ := own_by (fun t k => XS.lshr h hx rfl hd rfl k) G
theorem own_s_lushr {p : Program} {e : Env} {below : List Frame} {T : State} {m : MethodId} {c : Code} {Φ : Outcome → State → Prop} {pc : Nat} {L : Array Slot} {S : List Value} (h : At T m c below) (hx : p.tables.exec = Jvm.exec) {x : Int64} {y : Int32} (hd : decode c.code pc = .ok (.lushr, 1)) (G : own_Go p e below T (mkF m (pc + 1) L (.long ((x.toUInt64 >>> (y &&& 0x3f).toInt64.toUInt64).toInt64) :: S)) Φ) : own_Go p e below T (mkF m pc L (.int y :: .long x :: S)) Φ := own_by (fun t k => XS.lushr h hx rfl hd rfl k) G
theorem own_s_ineg {p : Program} {e : Env} {below : List Frame} {T : State} {m : MethodId} {c : Code} {Φ : Outcome → State → Prop} {pc : Nat} {L : Array Slot} {S : List Value} (h : At T m c below) (hx : p.tables.exec = Jvm.exec) {x : Int32} (hd : decode c.code pc = .ok (.ineg, 1)) (G : own_Go p e below T (mkF m (pc + 1) L (.int (-x) :: S)) Φ) : own_Go p e below T (mkF m pc L (.int x :: S)) Φ := own_by (fun t k => XS.ineg h hx rfl hd rfl k) G
theorem own_s_lneg {p : Program} {e : Env} {below : List Frame} {T : State} {m : MethodId} {c : Code} {Φ : Outcome → State → Prop} {pc : Nat} {L : Array Slot} {S : List Value} (h : At T m c below) (hx : p.tables.exec = Jvm.exec) {x : Int64} (hd : decode c.code pc = .ok (.lneg, 1)) (G : own_Go p e below T (mkF m (pc + 1) L (.long (-x) :: S)) Φ) : own_Go p e below T (mkF m pc L (.long x :: S)) Φ := own_by (fun t k => XS.lneg h hx rfl hd rfl k) G
theorem own_s_i2l {p : Program} {e : Env} {below : List Frame} {T : State} {m : MethodId} {c : Code} {Φ : Outcome → State → Prop} {pc : Nat} {L : Array Slot} {S : List Value} (h : At T m c below) (hx : p.tables.exec = Jvm.exec) {x : Int32} (hd : decode c.code pc = .ok (.i2l, 1)) (G : own_Go p e below T (mkF m (pc + 1) L (.long (x.toInt64) :: S)) Φ) : own_Go p e below T (mkF m pc L (.int x :: S)) Φ := own_by (fun t k => XS.i2l h hx rfl hd rfl k) G
theorem own_s_l2i {p : Program} {e : Env} {below : List Frame} {T : State} {m : MethodId} {c : Code} {Φ : Outcome → State → Prop} {pc : Nat} {L : Array Slot} {S : List Value} (h : At T m c below) (hx : p.tables.exec = Jvm.exec) {x : Int64} (hd : decode c.code pc = .ok (.l2i, 1)) (G : own_Go p e below T (mkF m (pc + 1) L (.int (x.toInt32) :: S)) Φ) : own_Go p e below T (mkF m pc L (.long x :: S)) Φ := own_by (fun t k => XS.l2i h hx rfl hd rfl k) G
theorem own_s_i2b {p : Program} {e : Env} {below : List Frame} {T : State} {m : MethodId} {c : Code} {Φ : Outcome → State → Prop} {pc : Nat} {L : Array Slot} {S : List Value} (h : At T m c below) (hx : p.tables.exec = Jvm.exec) {x : Int32} (hd : decode c.code pc = .ok (.i2b, 1)) (G : own_Go p e below T (mkF m (pc + 1) L (.int (x.toInt8.toInt32) :: S)) Φ) : own_Go p e below T (mkF m pc L (.int x :: S)) Φ := own_by (fun t k => XS.i2b h hx rfl hd rfl k) G
theorem own_s_i2s {p : Program} {e : Env} {below : List Frame} {T : State} {m : MethodId} {c : Code} {Φ : Outcome → State → Prop} {pc : Nat} {L : Array Slot} {S : List Value} (h : At T m c below) (hx : p.tables.exec = Jvm.exec) {x : Int32} (hd : decode c.code pc = .ok (.i2s, 1)) (G : own_Go p e below T (mkF m (pc + 1) L (.int (x.toInt16.toInt32) :: S)) Φ) : own_Go p e below T (mkF m pc L (.int x :: S)) Φ := own_by (fun t k => XS.i2s h hx rfl hd rfl k) G
theorem own_s_i2c {p : Program} {e : Env} {below : List Frame} {T : State} {m : MethodId} {c : Code} {Φ : Outcome → State → Prop} {pc : Nat} {L : Array Slot} {S : List Value} (h : At T m c below) (hx : p.tables.exec = Jvm.exec) {x : Int32} (hd : decode c.code pc = .ok (.i2c, 1)) (G : own_Go p e below T (mkF m (pc + 1) L (.int (x.toUInt32.toUInt16.toUInt32.toInt32) :: S)) Φ) : own_Go p e below T (mkF m pc L (.int x :: S)) Φ := own_by (fun t k => XS.i2c h hx rfl hd rfl k) G
theorem own_s_iloadN {p : Program} {e : Env} {below : List Frame} {T : State} {m : MethodId} {c : Code} {Φ : Outcome → State → Prop} {pc : Nat} {L : Array Slot} {S : List Value} (h : At T m c below) (hx : p.tables.exec = Jvm.exec) {i : Fin 4} {v : Int32} (hd : decode c.code pc = .ok (.iload_n i, 1)) (hl : L[i.val]? = some (.val (.int v))) (G : own_Go p e below T (mkF m (pc + 1) L (.int v :: S)) Φ) : own_Go p e below T (mkF m pc L S) Φ := own_by (fun t k => XS.iloadN h hx rfl hd hl k) G
theorem own_s_iload {p : Program} {e : Env} {below : List Frame} {T : State} {m : MethodId} {c : Code} {Φ : Outcome → State → Prop} {pc : Nat} {L : Array Slot} {S : List Value} (h : At T m c below) (hx : p.tables.exec = Jvm.exec) {i : Nat} {v : Int32} (hd : decode c.code pc = .ok (.iload i, 2)) (hl : L[i]? = some (.val (.int v))) (G : own_Go p e below T (mkF m (pc + 2) L (.int v :: S)) Φ) : own_Go p e below T (mkF m pc L S) Φ := own_by (fun t k => XS.iload h hx rfl hd hl k) G
theorem own_s_lloadN {p : Program} {e : Env} {below : List Frame} {T : State} {m : MethodId} {c : Code} {Φ : Outcome → State → Prop} {pc : Nat} {L : Array Slot} {S : List Value} (h : At T m c below) (hx : p.tables.exec = Jvm.exec) {i : Fin 4} {v : Int64} (hd : decode c.code pc = .ok (.lload_n i, 1)) (hl : L[i.val]? = some (.val (.long v))) (G : own_Go p e below T (mkF m (pc + 1) L (.long v :: S)) Φ) : own_Go p e below T (mkF m pc L S) Φ := own_by (fun t k => XS.lloadN h hx rfl hd hl k) G
theorem own_s_lload {p : Program} {e : Env} {below : List Frame} {T : State} {m : MethodId} {c : Code} {Φ : Outcome → State → Prop} {pc : Nat} {L : Array Slot} {S : List Value} (h : At T m c below) (hx : p.tables.exec = Jvm.exec) {i : Nat} {v : Int64} (hd : decode c.code pc = .ok (.lload i, 2)) (hl : L[i]? = some (.val (.long v))) (G : own_Go p e below T (mkF m (pc + 2) L (.long v :: S)) Φ) : own_Go p e below T (mkF m pc L S) Φ := own_by (fun t k => XS.lload h hx rfl hd hl k) G
theorem own_s_aloadN {p : Program} {e : Env} {below : List Frame} {T : State} {m : MethodId} {c : Code} {Φ : Outcome → State → Prop} {pc : Nat} {L : Array Slot} {S : List Value} (h : At T m c below) (hx : p.tables.exec = Jvm.exec) {i : Fin 4} {v : Value} (hd : decode c.code pc = .ok (.aload_n i, 1)) (hl : L[i.val]? = some (.val v)) (hv : v.isRef = true) (G : own_Go p e below T (mkF m (pc + 1) L (v :: S)) Φ) : own_Go p e below T (mkF m pc L S) Φ := own_by (fun t k => XS.aloadN h hx rfl hd hl hv k) G
theorem own_s_aload {p : Program} {e : Env} {below : List Frame} {T : State} {m : MethodId} {c : Code} {Φ : Outcome → State → Prop} {pc : Nat} {L : Array Slot} {S : List Value} (h : At T m c below) (hx : p.tables.exec = Jvm.exec) {i : Nat} {v : Value} (hd : decode c.code pc = .ok (.aload i, 2)) (hl : L[i]? = some (.val v)) (hv : v.isRef = true) (G : own_Go p e below T (mkF m (pc + 2) L (v :: S)) Φ) : own_Go p e below T (mkF m pc L S) Φ := own_by (fun t k => XS.aload h hx rfl hd hl hv k) G
theorem own_s_istoreN {p : Program} {e : Env} {below : List Frame} {T : State} {m : MethodId} {c : Code} {Φ : Outcome → State → Prop} {pc : Nat} {L : Array Slot} {S : List Value} (h : At T m c below) (hx : p.tables.exec = Jvm.exec) {i : Fin 4} {v : Int32} (L' : Array Slot) (hd : decode c.code pc = .ok (.istore_n i, 1)) (hl : storeLocals L i.val (.int v) = some L') (G : own_Go p e below T (mkF m (pc + 1) L' S) Φ) : own_Go p e below T (mkF m pc L (.int v :: S)) Φ := own_by (fun t k => XS.istoreN h hx rfl hd rfl hl k) G
theorem own_s_istore {p : Program} {e : Env} {below : List Frame} {T : State} {m : MethodId} {c : Code} {Φ : Outcome → State → Prop} {pc : Nat} {L : Array Slot} {S : List Value} (h : At T m c below) (hx : p.tables.exec = Jvm.exec) {i : Nat} {v : Int32} (L' : Array Slot) (hd : decode c.code pc = .ok (.istore i, 2)) (hl : storeLocals L i (.int v) = some L') (G : own_Go p e below T (mkF m (pc + 2) L' S) Φ) : own_Go p e below T (mkF m pc L (.int v :: S)) Φ := own_by (fun t k => XS.istore h hx rfl hd rfl hl k) G
theorem own_s_lstoreN {p : Program} {e : Env} {below : List Frame} {T : State} {m : MethodId} {c : Code} {Φ : Outcome → State → Prop} {pc : Nat} {L : Array Slot} {S : List Value} (h : At T m c below) (hx : p.tables.exec = Jvm.exec) {i : Fin 4} {v : Int64} (L' : Array Slot) (hd : decode c.code pc = .ok (.lstore_n i, 1)) (hl : storeLocals L i.val (.long v) = some L') (G : own_Go p e below T (mkF m (pc + 1) L' S) Φ) : own_Go p e below T (mkF m pc L (.long v :: S)) Φ := own_by (fun t k => XS.lstoreN h hx rfl hd rfl hl k) G
theorem own_s_lstore {p : Program} {e : Env} {below : List Frame} {T : State} {m : MethodId} {c : Code} {Φ : Outcome → State → Prop} {pc : Nat} {L : Array Slot} {S : List Value} (h : At T m c below) (hx : p.tables.exec = Jvm.exec) {i : Nat} {v : Int64} (L' : Array Slot) (hd : decode c.code pc = .ok (.lstore i, 2)) (hl : storeLocals L i (.long v) = some L') (G : own_Go p e below T (mkF m (pc + 2) L' S) Φ) : own_Go p e below T (mkF m pc L (.long v :: S)) Φ := own_by (fun t k => XS.lstore h hx rfl hd rfl hl k) G
theorem own_s_astoreN {p : Program} {e : Env} {below : List Frame} {T : State} {m : MethodId} {c : Code} {Φ : Outcome → State → Prop} {pc : Nat} {L : Array Slot} {S : List Value} (h : At T m c below) (hx : p.tables.exec = Jvm.exec) {i : Fin 4} {v : Value} (L' : Array Slot) (hd : decode c.code pc = .ok (.astore_n i, 1)) (hv : v.isRef = true) (hl : storeLocals L i.val v = some L') (G : own_Go p e below T (mkF m (pc + 1) L' S) Φ) : own_Go p e below T (mkF m pc L (v :: S)) Φ := own_by (fun t k => XS.astoreN h hx rfl hd rfl hv hl k) G
theorem own_s_astore {p : Program} {e : Env} {below : List Frame} {T : State} {m : MethodId} {c : Code} {Φ : Outcome → State → Prop} {pc : Nat} {L : Array Slot} {S : List Value} (h : At T m c below) (hx : p.tables.exec = Jvm.exec) {i : Nat} {v : Value} (L' : Array Slot) (hd : decode c.code pc = .ok (.astore i, 2)) (hv : v.isRef = true) (hl : storeLocals L i v = some L') (G : own_Go p e below T (mkF m (pc + 2) L' S) Φ) : own_Go p e below T (mkF m pc L (v :: S)) Φ := own_by (fun t k => XS.astore h hx rfl hd rfl hv hl k) G
theorem own_s_iconst {p : Program} {e : Env} {below : List Frame} {T : State} {m : MethodId} {c : Code} {Φ : Outcome → State → Prop} {pc : Nat} {L : Array Slot} {S : List Value} (h : At T m c below) (hx : p.tables.exec = Jvm.exec) {i : Int} (v : Int32) (hd : decode c.code pc = .ok (.iconst i, 1)) (hv : Int32.ofInt i = v) (G : own_Go p e below T (mkF m (pc + 1) L (.int v :: S)) Φ) : own_Go p e below T (mkF m pc L S) Φ := own_by (fun t k => XS.iconst h hx rfl hd (by rw [hv]; exact k)) G
theorem own_s_bipush {p : Program} {e : Env} {below : List Frame} {T : State} {m : MethodId} {c : Code} {Φ : Outcome → State → Prop} {pc : Nat} {L : Array Slot} {S : List Value} (h : At T m c below) (hx : p.tables.exec = Jvm.exec) {i : Int} (v : Int32) (hd : decode c.code pc = .ok (.bipush i, 2)) (hv : (Int8.ofInt i).toInt32 = v) (G : own_Go p e below T (mkF m (pc + 2) L (.int v :: S)) Φ) : own_Go p e below T (mkF m pc L S) Φ := own_by (fun t k => XS.bipush h hx rfl hd (by rw [hv]; exact k)) G
theorem own_s_sipush {p : Program} {e : Env} {below : List Frame} {T : State} {m : MethodId} {c : Code} {Φ : Outcome → State → Prop} {pc : Nat} {L : Array Slot} {S : List Value} (h : At T m c below) (hx : p.tables.exec = Jvm.exec) {i : Int} (v : Int32) (hd : decode c.code pc = .ok (.sipush i, 3)) (hv : (Int16.ofInt i).toInt32 = v) (G : own_Go p e below T (mkF m (pc + 3) L (.int v :: S)) Φ) : own_Go p e below T (mkF m pc L S) Φ := own_by (fun t k => XS.sipush h hx rfl hd (by rw [hv]; exact k)) G
theorem own_s_lconst {p : Program} {e : Env} {below : List Frame} {T : State} {m : MethodId} {c : Code} {Φ : Outcome → State → Prop} {pc : Nat} {L : Array Slot} {S : List Value} (h : At T m c below) (hx : p.tables.exec = Jvm.exec) {i : Fin 2} (v : Int64) (hd : decode c.code pc = .ok (.lconst i, 1)) (hv : Int64.ofNat i = v) (G : own_Go p e below T (mkF m (pc + 1) L (.long v :: S)) Φ) : own_Go p e below T (mkF m pc L S) Φ := own_by (fun t k => XS.lconst h hx rfl hd (by rw [hv]; exact k)) G
theorem own_s_goto {p : Program} {e : Env} {below : List Frame} {T : State} {m : MethodId} {c : Code} {Φ : Outcome → State → Prop} {pc : Nat} {L : Array Slot} {S : List Value} (h : At T m c below) (hx : p.tables.exec = Jvm.exec) {o : Int} (pc' : Nat) (hd : decode c.code pc = .ok (.goto o, 3)) (ho : 0 ≤ (pc : Int) + o) (hp : ((pc : Int) + o).toNat = pc') (G : own_Go p e below T (mkF m pc' L S) Φ) : own_Go p e below T (mkF m pc L S) Φ := own_by (fun t k => XS.goto h hx rfl rfl hd ho hp k) G
theorem own_s_ifYes {p : Program} {e : Env} {below : List Frame} {T : State} {m : MethodId} {c : Code} {Φ : Outcome → State → Prop} {pc : Nat} {L : Array Slot} {S : List Value} (h : At T m c below) (hx : p.tables.exec = Jvm.exec) {cd : ClassFile.Cond} {x : Int32} {o : Int} (pc' : Nat) (hd : decode c.code pc = .ok (.ifCond cd o, 3)) (hc : ifCond.holds cd x = true) (ho : 0 ≤ (pc : Int) + o) (hp : ((pc : Int) + o).toNat = pc') (G : own_Go p e below T (mkF m pc' L S) Φ) : own_Go p e below T (mkF m pc L (.int x :: S)) Φ := own_by (fun t k => XS.ifYes h hx rfl rfl hd rfl hc ho hp k) G
theorem own_s_ifNo {p : Program} {e : Env} {below : List Frame} {T : State} {m : MethodId} {c : Code} {Φ : Outcome → State → Prop} {pc : Nat} {L : Array Slot} {S : List Value} (h : At T m c below) (hx : p.tables.exec = Jvm.exec) {cd : ClassFile.Cond} {x : Int32} {o : Int} (hd : decode c.code pc = .ok (.ifCond cd o, 3)) (hc : ifCond.holds cd x = false) (G : own_Go p e below T (mkF m (pc + 3) L S) Φ) : own_Go p e below T (mkF m pc L (.int x :: S)) Φ := own_by (fun t k => XS.ifNo h hx rfl hd rfl hc k) G
theorem own_s_icmpYes {p : Program} {e : Env} {below : List Frame} {T : State} {m : MethodId} {c : Code} {Φ : Outcome → State → Prop} {pc : Nat} {L : Array Slot} {S : List Value} (h : At T m c below) (hx : p.tables.exec = Jvm.exec) {cd : ClassFile.Cond} {x y : Int32} {o : Int} (pc' : Nat) (hd : decode c.code pc = .ok (.if_icmp cd o, 3)) (hc : if_icmp.holds cd x y = true) (ho : 0 ≤ (pc : Int) + o) (hp : ((pc : Int) + o).toNat = pc') (G : own_Go p e below T (mkF m pc' L S) Φ) : own_Go p e below T (mkF m pc L (.int y :: .int x :: S)) Φ := own_by (fun t k => XS.icmpYes h hx rfl rfl hd rfl hc ho hp k) G
theorem own_s_icmpNo {p : Program} {e : Env} {below : List Frame} {T : State} {m : MethodId} {c : Code} {Φ : Outcome → State → Prop} {pc : Nat} {L : Array Slot} {S : List Value} (h : At T m c below) (hx : p.tables.exec = Jvm.exec) {cd : ClassFile.Cond} {x y : Int32} {o : Int} (hd : decode c.code pc = .ok (.if_icmp cd o, 3)) (hc : if_icmp.holds cd x y = false) (G : own_Go p e below T (mkF m (pc + 3) L S) Φ) : own_Go p e below T (mkF m pc L (.int y :: .int x :: S)) Φ := own_by (fun t k => XS.icmpNo h hx rfl hd rfl hc k) G
theorem own_s_lcmp {p : Program} {e : Env} {below : List Frame} {T : State} {m : MethodId} {c : Code} {Φ : Outcome → State → Prop} {pc : Nat} {L : Array Slot} {S : List Value} (h : At T m c below) (hx : p.tables.exec = Jvm.exec) {x y : Int64} (hd : decode c.code pc = .ok (.lcmp, 1)) (G : own_Go p e below T (mkF m (pc + 1) L (.int (Jvm.Free.XT.cmpL x y) :: S)) Φ) : own_Go p e below T (mkF m pc L (.long y :: .long x :: S)) Φ := own_by (fun t k => Jvm.Free.XT.lcmp h hx rfl hd rfl k) G
theorem own_s_dup {p : Program} {e : Env} {below : List Frame} {T : State} {m : MethodId} {c : Code} {Φ : Outcome → State → Prop} {pc : Nat} {L : Array Slot} {S : List Value} (h : At T m c below) (hx : p.tables.exec = Jvm.exec) {x : Value} (hd : decode c.code pc = .ok (.dup, 1)) (hc : x.category = 1) (G : own_Go p e below T (mkF m (pc + 1) L (x :: x :: S)) Φ) : own_Go p e below T (mkF m pc L (x :: S)) Φ := own_by (fun t k => XS.dup h hx rfl hd rfl hc k) G
theorem own_s_pop {p : Program} {e : Env} {below : List Frame} {T : State} {m : MethodId} {c : Code} {Φ : Outcome → State → Prop} {pc : Nat} {L : Array Slot} {S : List Value} (h : At T m c below) (hx : p.tables.exec = Jvm.exec) {x : Value} (hd : decode c.code pc = .ok (.pop, 1)) (hc : x.category = 1) (G : own_Go p e below T (mkF m (pc + 1) L S) Φ) : own_Go p e below T (mkF m pc L (x :: S)) Φ := own_by (fun t k => XS.pop h hx rfl hd rfl hc k) G

def own_s7 (x : Int32) : Int32 := ((x.toUInt32 >>> ((7 : Int32) &&& 31).toUInt32).toInt32)
def own_by8 (x : Int32) : Int32 := (x.toInt8.toInt32).toInt8.toInt32
def own_mid (x : Int32) : Int32 := (((x &&& (127 : Int32)) ||| (128 : Int32)).toInt8.toInt32).toInt8.toInt32
def own_tf (b : Int32) (ps n : Nat) (ev : Nat → Int32) (i : Nat) : Int32 := if ps ≤ i ∧ i < ps + n then ev (i - ps) else b
def own_b5 (b0 b1 b2 b3 b4 : Int32) : Nat → Int32
  | 0 => b0 | 1 => b1 | 2 => b2 | 3 => b3 | _ => b4
theorem own_byx (x y : Int32) (h : x = y) : (x.toInt8.toInt32).toInt8.toInt32 = own_by8 y := by rw [h]; rfl
theorem own_idem (x : Int32) : (x.toInt8.toInt32).toInt8.toInt32 = x.toInt8.toInt32 := by rw [Int8.toInt8_toInt32]
theorem own_succ {x : Int32} {k : Nat} (h : own_At x k) (hk : k < 1000) : own_At (x + (1 : Int32)) (k + 1) := by
  have a := h.1; have b := h.2
  simp only [Int32.lt_iff_toInt_lt, Int32.toNatClampNeg, show (0 : Int32).toInt = 0 from by decide] at a b
  have c1 : (1 : Int32).toInt = 1 := by decide
  have e : (x + (1 : Int32)).toInt = x.toInt + 1 := by rw [Jvm.Kit.i32_add (by rw [c1]; omega) (by rw [c1]; omega), c1]
  refine ⟨?_, ?_⟩
  · rw [Int32.lt_iff_toInt_lt, e, show (0 : Int32).toInt = 0 from by decide]; omega
  · simp only [Int32.toNatClampNeg, e]; omega
theorem own_d1_0 : decode prog_6_method_4_code 0 = .ok (.iload_n 1, 1) := by decide +kernel
theorem own_d1_1 : decode prog_6_method_4_code 1 = .ok (.istore_n 3, 1) := by decide +kernel
theorem own_d1_2 : decode prog_6_method_4_code 2 = .ok (.iload_n 2, 1) := by decide +kernel
theorem own_d1_3 : decode prog_6_method_4_code 3 = .ok (.istore 4, 2) := by decide +kernel
theorem own_d1_5 : decode prog_6_method_4_code 5 = .ok (.iload 4, 2) := by decide +kernel
theorem own_d1_7 : decode prog_6_method_4_code 7 = .ok (.bipush (-128), 2) := by decide +kernel
theorem own_d1_9 : decode prog_6_method_4_code 9 = .ok (.iand, 1) := by decide +kernel
theorem own_d1_10 : decode prog_6_method_4_code 10 = .ok (.ifCond .eq 29, 3) := by decide +kernel
theorem own_d1_13 : decode prog_6_method_4_code 13 = .ok (.aload_n 0, 1) := by decide +kernel
theorem own_d1_14 : decode prog_6_method_4_code 14 = .ok (.iload_n 3, 1) := by decide +kernel
theorem own_d1_15 : decode prog_6_method_4_code 15 = .ok (.iinc 3 1, 3) := by decide +kernel
theorem own_d1_18 : decode prog_6_method_4_code 18 = .ok (.iload 4, 2) := by decide +kernel
theorem own_d1_20 : decode prog_6_method_4_code 20 = .ok (.bipush 127, 2) := by decide +kernel
theorem own_d1_22 : decode prog_6_method_4_code 22 = .ok (.iand, 1) := by decide +kernel
theorem own_d1_23 : decode prog_6_method_4_code 23 = .ok (.sipush 128, 3) := by decide +kernel
theorem own_d1_26 : decode prog_6_method_4_code 26 = .ok (.ior, 1) := by decide +kernel
theorem own_d1_27 : decode prog_6_method_4_code 27 = .ok (.i2b, 1) := by decide +kernel
theorem own_d1_28 : decode prog_6_method_4_code 28 = .ok (.bastore, 1) := by decide +kernel
theorem own_d1_29 : decode prog_6_method_4_code 29 = .ok (.iload 4, 2) := by decide +kernel
theorem own_d1_31 : decode prog_6_method_4_code 31 = .ok (.bipush 7, 2) := by decide +kernel
theorem own_d1_33 : decode prog_6_method_4_code 33 = .ok (.iushr, 1) := by decide +kernel
theorem own_d1_34 : decode prog_6_method_4_code 34 = .ok (.istore 4, 2) := by decide +kernel
theorem own_d1_36 : decode prog_6_method_4_code 36 = .ok (.goto (-31), 3) := by decide +kernel
theorem own_d1_39 : decode prog_6_method_4_code 39 = .ok (.aload_n 0, 1) := by decide +kernel
theorem own_d1_40 : decode prog_6_method_4_code 40 = .ok (.iload_n 3, 1) := by decide +kernel
theorem own_d1_41 : decode prog_6_method_4_code 41 = .ok (.iinc 3 1, 3) := by decide +kernel
theorem own_d1_44 : decode prog_6_method_4_code 44 = .ok (.iload 4, 2) := by decide +kernel
theorem own_d1_46 : decode prog_6_method_4_code 46 = .ok (.i2b, 1) := by decide +kernel
theorem own_d1_47 : decode prog_6_method_4_code 47 = .ok (.bastore, 1) := by decide +kernel
theorem own_d1_48 : decode prog_6_method_4_code 48 = .ok (.iload_n 3, 1) := by decide +kernel
theorem own_d1_49 : decode prog_6_method_4_code 49 = .ok (.ireturn, 1) := by decide +kernel
theorem own_pn_ByteWriter : plainName "com/example/fold_time/foldtime/model/ByteWriter" = true := by first | (simp [plainName, overriddenIn]; done) | decide +kernel
theorem own_ef1 (m : MethodId) (t_ : Addr) (u0 : Int32) (u1 : Int32) : entryFrame m #[(.ref t_), (.int u0), (.int u1)] 5 = mkF m 0 #[.val (.ref t_), .val (.int u0), .val (.int u1), .unset, .unset] [] := by first | (simp [entryFrame, mkF, argsToLocals, Value.category]; done) | rfl
def own_q_own_pv1 (Z : State) (t_ : Addr) (u0 : Int32) (u1 : Int32) (ps : Nat) (f : Nat → Value) (h0 : Heap) (n0 : Nat) (v : Option Value) (h : Heap) (L : List Loc) : Prop := v = some (.int (u0 + (1 : Int32))) ∧ Fr n0 L ∧ Keep h0 h [t_] ∧ own_Av Z h t_ .byte 13 (own_upd f ps (.int (own_by8 u1)))
set_option maxRecDepth 65536 in
set_option maxHeartbeats 40000000 in
theorem own_pv1 (l : Launch) (Z : State) (a0 : Array Value) (hw : ∀ d ∈ tables_1, d.before a0 Z = true) (ws : List Jvm.Cond) (t_ : Addr) (u0 : Int32) (u1 : Int32) (ps : Nat) (f : Nat → Value) (h0 : Heap) (n0 : Nat) (Z0 : n0 ≤ h0.size) (hp : own_At u0 ps) (hps : ps + 1 ≤ 13) (hl : (u1 &&& (-128 : Int32)) = 0) (A_t_ : own_Av Z h0 t_ .byte 13 f) (ge_t_ : n0 ≤ t_) :
    MetFree l (⟨"com/example/fold_time/foldtime/model/ByteWriter", "putVarint", "([BII)I"⟩ : MethodName) (head1 (Jvm.Cond.code (⟨"com/example/fold_time/foldtime/model/ByteWriter", "putVarint", "([BII)I"⟩ : MethodName) prog_6_method_4_code 5 (some .int) :: ws) ({ frames := 0, cells := 0, slots := 0, locals := 0 } : Room)) (fun aq Uq => aq = #[(.ref t_), (.int u0), (.int u1)] ∧ Z.Warmed39 Uq.vm ∧ Uq.heap = h0) (fun _ _ _ _ _ => True) (fun _ Uq oq Uq' => ∃ vq Lq, oq = .returned vq ∧ own_q_own_pv1 Z t_ u0 u1 ps f h0 n0 vq Uq'.heap Lq ∧ FrameEnd Uq oq Uq' Lq ({ frames := 0, cells := 0, slots := 0, locals := 0 } : Room).cells ({ frames := 0, cells := 0, slots := 0, locals := 0 } : Room).slots) := by
  refine MetFree.of_bodySF (plainFor_of_name own_pn_ByteWriter) hisR ?_
  intro p e s m args below meth c T0 Bd hml0 hP hK
  obtain ⟨rfl, hZ, hh⟩ := hP
  have hx := Bd.exec
  have hby := Bd.bytes
  have hml : c.maxLocals = 5 := hml0
  have hown : s.vm.findClass "com/example/fold_time/foldtime/model/ByteWriter" = some m.cls := findClass_of_methodNamed Bd.named
  have hnm := (name_of_methodNamed Bd.named Bd.method).1
  have hret : meth.sig.returnType = (some .int) := Bd.returns
  have hlk : meth.locks = false := BodyLoose.notSynchronized Bd
  have X0 : Stand p l e ({ frames := 0, cells := 0, slots := 0, locals := 0 } : Room) s m #[(.ref t_), (.int u0), (.int u1)] below meth c T0 [] 0 0 := Stand.of_body Bd
  have e0 : T0.heap = h0 := by rw [← hh, Bd.state]; rfl
  have N0 := Fr.nil n0
  refine own_start (own_ef1 m t_ u0 u1) (Q := fun (v : Option Value) (h : Heap) (L : List Loc) => v = some (.int (u0 + (1 : Int32))) ∧ Fr n0 L ∧ Keep h0 h [t_] ∧ own_Av Z h t_ .byte 13 (own_upd f ps (.int (own_by8 u1)))) (k := 0) (j := 0) ?_
  show own_Go p e below T0 (mkF m 0 #[.val (.ref t_), .val (.int u0), .val (.int u1), .unset, .unset] []) _
  have K0 := Keep.refl h0 [t_]
  refine own_s_iloadN X0.here hx (hb hby own_d1_0) rfl ?_
  refine own_s_istoreN X0.here hx #[.val (.ref t_), .val (.int u0), .val (.int u1), .val (.int u0), .unset] (hb hby own_d1_1) rfl ?_
  refine own_s_iloadN X0.here hx (hb hby own_d1_2) rfl ?_
  refine own_s_istore X0.here hx #[.val (.ref t_), .val (.int u0), .val (.int u1), .val (.int u0), .val (.int u1)] (hb hby own_d1_3) rfl ?_
  refine own_s_iload X0.here hx (hb hby own_d1_5) rfl ?_
  refine own_s_bipush X0.here hx (-128 : Int32) (hb hby own_d1_7) rfl ?_
  refine own_s_iand X0.here hx (hb hby own_d1_9) ?_
  show own_Go p e below T0 (mkF m 10 #[.val (.ref t_), .val (.int u0), .val (.int u1), .val (.int u0), .val (.int u1)] [(.int (u1 &&& (-128 : Int32)))]) _
  refine own_s_ifYes X0.here hx 39 (hb hby own_d1_10) (Jvm.Free.XT.i0_eq_t hl) (by decide) (by decide) ?_
  refine own_s_aloadN X0.here hx (hb hby own_d1_39) rfl rfl ?_
  refine own_s_iloadN X0.here hx (hb hby own_d1_40) rfl ?_
  refine own_by (fun tq_ kq_ => XS.iinc X0.here hx rfl (hb hby own_d1_41) rfl (l' := #[.val (.ref t_), .val (.int u0), .val (.int u1), .val (.int (u0 + (1 : Int32))), .val (.int u1)]) rfl kq_) ?_
  show own_Go p e below T0 (mkF m 44 #[.val (.ref t_), .val (.int u0), .val (.int u1), .val (.int (u0 + (1 : Int32))), .val (.int u1)] [(.int u0), (.ref t_)]) _
  refine own_s_iload X0.here hx (hb hby own_d1_44) rfl ?_
  refine own_s_i2b X0.here hx (hb hby own_d1_46) ?_
  obtain ⟨T1, h1, X1, e1, W1, fa1, st1⟩ := own_stB X0 hx hZ e0 A_t_ (k := ps) hp (by omega) (g := (mkF m 47 #[.val (.ref t_), .val (.int u0), .val (.int u1), .val (.int (u0 + (1 : Int32))), .val (.int u1)] [(.int (u1.toInt8.toInt32)), (.int u0), (.ref t_)])) rfl rfl (hb hby own_d1_47)
  have N1 := Fr.snoc X1 N0 ge_t_
  have SZ1 : n0 ≤ h1.size := by rw [W1.size]; exact Z0
  have K1 := K0.wr W1 (Or.inl (List.mem_of_getElem? (i := 0) rfl))
  refine own_by st1 ?_
  show own_Go p e below T1 (mkF m 48 #[.val (.ref t_), .val (.int u0), .val (.int u1), .val (.int (u0 + (1 : Int32))), .val (.int u1)] []) _
  have f2 : own_Av Z h1 t_ .byte 13 (own_upd f ps (.int (own_by8 u1))) := fa1
  refine own_s_iloadN X1.here hx (hb hby own_d1_48) rfl ?_
  refine own_retI X1 hx hret hlk (hb hby own_d1_49) (by decide) (by decide) ?_
  rw [e1]
  exact ⟨rfl, N1, K1, f2⟩
def own_q_own_pv2 (Z : State) (t_ : Addr) (u0 : Int32) (u1 : Int32) (ps : Nat) (f : Nat → Value) (h0 : Heap) (n0 : Nat) (v : Option Value) (h : Heap) (L : List Loc) : Prop := v = some (.int ((u0 + (1 : Int32)) + (1 : Int32))) ∧ Fr n0 L ∧ Keep h0 h [t_] ∧ own_Av Z h t_ .byte 13 (own_upd (own_upd f ps (.int (own_mid u1))) (ps + 1) (.int (own_by8 (own_s7 u1))))
set_option maxRecDepth 65536 in
set_option maxHeartbeats 40000000 in
theorem own_pv2 (l : Launch) (Z : State) (a0 : Array Value) (hw : ∀ d ∈ tables_1, d.before a0 Z = true) (ws : List Jvm.Cond) (t_ : Addr) (u0 : Int32) (u1 : Int32) (ps : Nat) (f : Nat → Value) (h0 : Heap) (n0 : Nat) (Z0 : n0 ≤ h0.size) (hp : own_At u0 ps) (hps : ps + 2 ≤ 13) (hj0 : ¬ (u1 &&& (-128 : Int32)) = 0) (hl : ((own_s7 u1) &&& (-128 : Int32)) = 0) (A_t_ : own_Av Z h0 t_ .byte 13 f) (ge_t_ : n0 ≤ t_) :
    MetFree l (⟨"com/example/fold_time/foldtime/model/ByteWriter", "putVarint", "([BII)I"⟩ : MethodName) (head1 (Jvm.Cond.code (⟨"com/example/fold_time/foldtime/model/ByteWriter", "putVarint", "([BII)I"⟩ : MethodName) prog_6_method_4_code 5 (some .int) :: ws) ({ frames := 0, cells := 0, slots := 0, locals := 0 } : Room)) (fun aq Uq => aq = #[(.ref t_), (.int u0), (.int u1)] ∧ Z.Warmed39 Uq.vm ∧ Uq.heap = h0) (fun _ _ _ _ _ => True) (fun _ Uq oq Uq' => ∃ vq Lq, oq = .returned vq ∧ own_q_own_pv2 Z t_ u0 u1 ps f h0 n0 vq Uq'.heap Lq ∧ FrameEnd Uq oq Uq' Lq ({ frames := 0, cells := 0, slots := 0, locals := 0 } : Room).cells ({ frames := 0, cells := 0, slots := 0, locals := 0 } : Room).slots) := by
  refine MetFree.of_bodySF (plainFor_of_name own_pn_ByteWriter) hisR ?_
  intro p e s m args below meth c T0 Bd hml0 hP hK
  obtain ⟨rfl, hZ, hh⟩ := hP
  have hx := Bd.exec
  have hby := Bd.bytes
  have hml : c.maxLocals = 5 := hml0
  have hown : s.vm.findClass "com/example/fold_time/foldtime/model/ByteWriter" = some m.cls := findClass_of_methodNamed Bd.named
  have hnm := (name_of_methodNamed Bd.named Bd.method).1
  have hret : meth.sig.returnType = (some .int) := Bd.returns
  have hlk : meth.locks = false := BodyLoose.notSynchronized Bd
  have X0 : Stand p l e ({ frames := 0, cells := 0, slots := 0, locals := 0 } : Room) s m #[(.ref t_), (.int u0), (.int u1)] below meth c T0 [] 0 0 := Stand.of_body Bd
  have e0 : T0.heap = h0 := by rw [← hh, Bd.state]; rfl
  have N0 := Fr.nil n0
  refine own_start (own_ef1 m t_ u0 u1) (Q := fun (v : Option Value) (h : Heap) (L : List Loc) => v = some (.int ((u0 + (1 : Int32)) + (1 : Int32))) ∧ Fr n0 L ∧ Keep h0 h [t_] ∧ own_Av Z h t_ .byte 13 (own_upd (own_upd f ps (.int (own_mid u1))) (ps + 1) (.int (own_by8 (own_s7 u1))))) (k := 0) (j := 0) ?_
  show own_Go p e below T0 (mkF m 0 #[.val (.ref t_), .val (.int u0), .val (.int u1), .unset, .unset] []) _
  have K0 := Keep.refl h0 [t_]
  refine own_s_iloadN X0.here hx (hb hby own_d1_0) rfl ?_
  refine own_s_istoreN X0.here hx #[.val (.ref t_), .val (.int u0), .val (.int u1), .val (.int u0), .unset] (hb hby own_d1_1) rfl ?_
  refine own_s_iloadN X0.here hx (hb hby own_d1_2) rfl ?_
  refine own_s_istore X0.here hx #[.val (.ref t_), .val (.int u0), .val (.int u1), .val (.int u0), .val (.int u1)] (hb hby own_d1_3) rfl ?_
  refine own_s_iload X0.here hx (hb hby own_d1_5) rfl ?_
  refine own_s_bipush X0.here hx (-128 : Int32) (hb hby own_d1_7) rfl ?_
  refine own_s_iand X0.here hx (hb hby own_d1_9) ?_
  refine own_s_ifNo X0.here hx (hb hby own_d1_10) (Jvm.Free.XT.i0_eq_f hj0) ?_
  refine own_s_aloadN X0.here hx (hb hby own_d1_13) rfl rfl ?_
  refine own_s_iloadN X0.here hx (hb hby own_d1_14) rfl ?_
  refine own_by (fun tq_ kq_ => XS.iinc X0.here hx rfl (hb hby own_d1_15) rfl (l' := #[.val (.ref t_), .val (.int u0), .val (.int u1), .val (.int (u0 + (1 : Int32))), .val (.int u1)]) rfl kq_) ?_
  show own_Go p e below T0 (mkF m 18 #[.val (.ref t_), .val (.int u0), .val (.int u1), .val (.int (u0 + (1 : Int32))), .val (.int u1)] [(.int u0), (.ref t_)]) _
  refine own_s_iload X0.here hx (hb hby own_d1_18) rfl ?_
  refine own_s_bipush X0.here hx (127 : Int32) (hb hby own_d1_20) rfl ?_
  refine own_s_iand X0.here hx (hb hby own_d1_22) ?_
  refine own_s_sipush X0.here hx (128 : Int32) (hb hby own_d1_23) rfl ?_
  refine own_s_ior X0.here hx (hb hby own_d1_26) ?_
  refine own_s_i2b X0.here hx (hb hby own_d1_27) ?_
  obtain ⟨T3, h3, X3, e3, W3, fa3, st3⟩ := own_stB X0 hx hZ e0 A_t_ (k := ps) hp (by omega) (g := (mkF m 28 #[.val (.ref t_), .val (.int u0), .val (.int u1), .val (.int (u0 + (1 : Int32))), .val (.int u1)] [(.int (((u1 &&& (127 : Int32)) ||| (128 : Int32)).toInt8.toInt32)), (.int u0), (.ref t_)])) rfl rfl (hb hby own_d1_28)
  have N3 := Fr.snoc X3 N0 ge_t_
  have SZ3 : n0 ≤ h3.size := by rw [W3.size]; exact Z0
  have K3 := K0.wr W3 (Or.inl (List.mem_of_getElem? (i := 0) rfl))
  refine own_by st3 ?_
  show own_Go p e below T3 (mkF m 29 #[.val (.ref t_), .val (.int u0), .val (.int u1), .val (.int (u0 + (1 : Int32))), .val (.int u1)] []) _
  have f4 : own_Av Z h3 t_ .byte 13 (own_upd f ps (.int (own_mid u1))) := fa3
  refine own_s_iload X3.here hx (hb hby own_d1_29) rfl ?_
  refine own_s_bipush X3.here hx (7 : Int32) (hb hby own_d1_31) rfl ?_
  refine own_s_iushr X3.here hx (hb hby own_d1_33) ?_
  show own_Go p e below T3 (mkF m 34 #[.val (.ref t_), .val (.int u0), .val (.int u1), .val (.int (u0 + (1 : Int32))), .val (.int u1)] [(.int (own_s7 u1))]) _
  refine own_s_istore X3.here hx #[.val (.ref t_), .val (.int u0), .val (.int u1), .val (.int (u0 + (1 : Int32))), .val (.int (own_s7 u1))] (hb hby own_d1_34) rfl ?_
  show own_Go p e below T3 (mkF m 36 #[.val (.ref t_), .val (.int u0), .val (.int u1), .val (.int (u0 + (1 : Int32))), .val (.int (own_s7 u1))] []) _
  refine own_s_goto X3.here hx 5 (hb hby own_d1_36) (by decide) (by decide) ?_
  refine own_s_iload X3.here hx (hb hby own_d1_5) rfl ?_
  refine own_s_bipush X3.here hx (-128 : Int32) (hb hby own_d1_7) rfl ?_
  refine own_s_iand X3.here hx (hb hby own_d1_9) ?_
  show own_Go p e below T3 (mkF m 10 #[.val (.ref t_), .val (.int u0), .val (.int u1), .val (.int (u0 + (1 : Int32))), .val (.int (own_s7 u1))] [(.int ((own_s7 u1) &&& (-128 : Int32)))]) _
  refine own_s_ifYes X3.here hx 39 (hb hby own_d1_10) (Jvm.Free.XT.i0_eq_t hl) (by decide) (by decide) ?_
  refine own_s_aloadN X3.here hx (hb hby own_d1_39) rfl rfl ?_
  refine own_s_iloadN X3.here hx (hb hby own_d1_40) rfl ?_
  refine own_by (fun tq_ kq_ => XS.iinc X3.here hx rfl (hb hby own_d1_41) rfl (l' := #[.val (.ref t_), .val (.int u0), .val (.int u1), .val (.int ((u0 + (1 : Int32)) + (1 : Int32))), .val (.int (own_s7 u1))]) rfl kq_) ?_
  show own_Go p e below T3 (mkF m 44 #[.val (.ref t_), .val (.int u0), .val (.int u1), .val (.int ((u0 + (1 : Int32)) + (1 : Int32))), .val (.int (own_s7 u1))] [(.int (u0 + (1 : Int32))), (.ref t_)]) _
  refine own_s_iload X3.here hx (hb hby own_d1_44) rfl ?_
  refine own_s_i2b X3.here hx (hb hby own_d1_46) ?_
  obtain ⟨T5, h5, X5, e5, W5, fa5, st5⟩ := own_stB X3 hx hZ e3 f4 (k := (ps + 1)) (own_succ hp (by omega)) (by omega) (g := (mkF m 47 #[.val (.ref t_), .val (.int u0), .val (.int u1), .val (.int ((u0 + (1 : Int32)) + (1 : Int32))), .val (.int (own_s7 u1))] [(.int ((own_s7 u1).toInt8.toInt32)), (.int (u0 + (1 : Int32))), (.ref t_)])) rfl rfl (hb hby own_d1_47)
  have N5 := Fr.snoc X5 N3 ge_t_
  have SZ5 : n0 ≤ h5.size := by rw [W5.size]; exact SZ3
  have K5 := K3.wr W5 (Or.inl (List.mem_of_getElem? (i := 0) rfl))
  refine own_by st5 ?_
  show own_Go p e below T5 (mkF m 48 #[.val (.ref t_), .val (.int u0), .val (.int u1), .val (.int ((u0 + (1 : Int32)) + (1 : Int32))), .val (.int (own_s7 u1))] []) _
  have f6 : own_Av Z h5 t_ .byte 13 (own_upd (own_upd f ps (.int (own_mid u1))) (ps + 1) (.int (own_by8 (own_s7 u1)))) := fa5
  refine own_s_iloadN X5.here hx (hb hby own_d1_48) rfl ?_
  refine own_retI X5 hx hret hlk (hb hby own_d1_49) (by decide) (by decide) ?_
  rw [e5]
  exact ⟨rfl, N5, K5, f6⟩
def own_q_own_pv3 (Z : State) (t_ : Addr) (u0 : Int32) (u1 : Int32) (ps : Nat) (f : Nat → Value) (h0 : Heap) (n0 : Nat) (v : Option Value) (h : Heap) (L : List Loc) : Prop := v = some (.int (((u0 + (1 : Int32)) + (1 : Int32)) + (1 : Int32))) ∧ Fr n0 L ∧ Keep h0 h [t_] ∧ own_Av Z h t_ .byte 13 (own_upd (own_upd (own_upd f ps (.int (own_mid u1))) (ps + 1) (.int (own_mid (own_s7 u1)))) ((ps + 1) + 1) (.int (own_by8 (own_s7 (own_s7 u1)))))
set_option maxRecDepth 65536 in
set_option maxHeartbeats 40000000 in
theorem own_pv3 (l : Launch) (Z : State) (a0 : Array Value) (hw : ∀ d ∈ tables_1, d.before a0 Z = true) (ws : List Jvm.Cond) (t_ : Addr) (u0 : Int32) (u1 : Int32) (ps : Nat) (f : Nat → Value) (h0 : Heap) (n0 : Nat) (Z0 : n0 ≤ h0.size) (hp : own_At u0 ps) (hps : ps + 3 ≤ 13) (hj0 : ¬ (u1 &&& (-128 : Int32)) = 0) (hj1 : ¬ ((own_s7 u1) &&& (-128 : Int32)) = 0) (hl : ((own_s7 (own_s7 u1)) &&& (-128 : Int32)) = 0) (A_t_ : own_Av Z h0 t_ .byte 13 f) (ge_t_ : n0 ≤ t_) :
    MetFree l (⟨"com/example/fold_time/foldtime/model/ByteWriter", "putVarint", "([BII)I"⟩ : MethodName) (head1 (Jvm.Cond.code (⟨"com/example/fold_time/foldtime/model/ByteWriter", "putVarint", "([BII)I"⟩ : MethodName) prog_6_method_4_code 5 (some .int) :: ws) ({ frames := 0, cells := 0, slots := 0, locals := 0 } : Room)) (fun aq Uq => aq = #[(.ref t_), (.int u0), (.int u1)] ∧ Z.Warmed39 Uq.vm ∧ Uq.heap = h0) (fun _ _ _ _ _ => True) (fun _ Uq oq Uq' => ∃ vq Lq, oq = .returned vq ∧ own_q_own_pv3 Z t_ u0 u1 ps f h0 n0 vq Uq'.heap Lq ∧ FrameEnd Uq oq Uq' Lq ({ frames := 0, cells := 0, slots := 0, locals := 0 } : Room).cells ({ frames := 0, cells := 0, slots := 0, locals := 0 } : Room).slots) := by
  refine MetFree.of_bodySF (plainFor_of_name own_pn_ByteWriter) hisR ?_
  intro p e s m args below meth c T0 Bd hml0 hP hK
  obtain ⟨rfl, hZ, hh⟩ := hP
  have hx := Bd.exec
  have hby := Bd.bytes
  have hml : c.maxLocals = 5 := hml0
  have hown : s.vm.findClass "com/example/fold_time/foldtime/model/ByteWriter" = some m.cls := findClass_of_methodNamed Bd.named
  have hnm := (name_of_methodNamed Bd.named Bd.method).1
  have hret : meth.sig.returnType = (some .int) := Bd.returns
  have hlk : meth.locks = false := BodyLoose.notSynchronized Bd
  have X0 : Stand p l e ({ frames := 0, cells := 0, slots := 0, locals := 0 } : Room) s m #[(.ref t_), (.int u0), (.int u1)] below meth c T0 [] 0 0 := Stand.of_body Bd
  have e0 : T0.heap = h0 := by rw [← hh, Bd.state]; rfl
  have N0 := Fr.nil n0
  refine own_start (own_ef1 m t_ u0 u1) (Q := fun (v : Option Value) (h : Heap) (L : List Loc) => v = some (.int (((u0 + (1 : Int32)) + (1 : Int32)) + (1 : Int32))) ∧ Fr n0 L ∧ Keep h0 h [t_] ∧ own_Av Z h t_ .byte 13 (own_upd (own_upd (own_upd f ps (.int (own_mid u1))) (ps + 1) (.int (own_mid (own_s7 u1)))) ((ps + 1) + 1) (.int (own_by8 (own_s7 (own_s7 u1)))))) (k := 0) (j := 0) ?_
  show own_Go p e below T0 (mkF m 0 #[.val (.ref t_), .val (.int u0), .val (.int u1), .unset, .unset] []) _
  have K0 := Keep.refl h0 [t_]
  refine own_s_iloadN X0.here hx (hb hby own_d1_0) rfl ?_
  refine own_s_istoreN X0.here hx #[.val (.ref t_), .val (.int u0), .val (.int u1), .val (.int u0), .unset] (hb hby own_d1_1) rfl ?_
  refine own_s_iloadN X0.here hx (hb hby own_d1_2) rfl ?_
  refine own_s_istore X0.here hx #[.val (.ref t_), .val (.int u0), .val (.int u1), .val (.int u0), .val (.int u1)] (hb hby own_d1_3) rfl ?_
  refine own_s_iload X0.here hx (hb hby own_d1_5) rfl ?_
  refine own_s_bipush X0.here hx (-128 : Int32) (hb hby own_d1_7) rfl ?_
  refine own_s_iand X0.here hx (hb hby own_d1_9) ?_
  refine own_s_ifNo X0.here hx (hb hby own_d1_10) (Jvm.Free.XT.i0_eq_f hj0) ?_
  refine own_s_aloadN X0.here hx (hb hby own_d1_13) rfl rfl ?_
  refine own_s_iloadN X0.here hx (hb hby own_d1_14) rfl ?_
  refine own_by (fun tq_ kq_ => XS.iinc X0.here hx rfl (hb hby own_d1_15) rfl (l' := #[.val (.ref t_), .val (.int u0), .val (.int u1), .val (.int (u0 + (1 : Int32))), .val (.int u1)]) rfl kq_) ?_
  show own_Go p e below T0 (mkF m 18 #[.val (.ref t_), .val (.int u0), .val (.int u1), .val (.int (u0 + (1 : Int32))), .val (.int u1)] [(.int u0), (.ref t_)]) _
  refine own_s_iload X0.here hx (hb hby own_d1_18) rfl ?_
  refine own_s_bipush X0.here hx (127 : Int32) (hb hby own_d1_20) rfl ?_
  refine own_s_iand X0.here hx (hb hby own_d1_22) ?_
  refine own_s_sipush X0.here hx (128 : Int32) (hb hby own_d1_23) rfl ?_
  refine own_s_ior X0.here hx (hb hby own_d1_26) ?_
  refine own_s_i2b X0.here hx (hb hby own_d1_27) ?_
  obtain ⟨T7, h7, X7, e7, W7, fa7, st7⟩ := own_stB X0 hx hZ e0 A_t_ (k := ps) hp (by omega) (g := (mkF m 28 #[.val (.ref t_), .val (.int u0), .val (.int u1), .val (.int (u0 + (1 : Int32))), .val (.int u1)] [(.int (((u1 &&& (127 : Int32)) ||| (128 : Int32)).toInt8.toInt32)), (.int u0), (.ref t_)])) rfl rfl (hb hby own_d1_28)
  have N7 := Fr.snoc X7 N0 ge_t_
  have SZ7 : n0 ≤ h7.size := by rw [W7.size]; exact Z0
  have K7 := K0.wr W7 (Or.inl (List.mem_of_getElem? (i := 0) rfl))
  refine own_by st7 ?_
  show own_Go p e below T7 (mkF m 29 #[.val (.ref t_), .val (.int u0), .val (.int u1), .val (.int (u0 + (1 : Int32))), .val (.int u1)] []) _
  have f8 : own_Av Z h7 t_ .byte 13 (own_upd f ps (.int (own_mid u1))) := fa7
  refine own_s_iload X7.here hx (hb hby own_d1_29) rfl ?_
  refine own_s_bipush X7.here hx (7 : Int32) (hb hby own_d1_31) rfl ?_
  refine own_s_iushr X7.here hx (hb hby own_d1_33) ?_
  show own_Go p e below T7 (mkF m 34 #[.val (.ref t_), .val (.int u0), .val (.int u1), .val (.int (u0 + (1 : Int32))), .val (.int u1)] [(.int (own_s7 u1))]) _
  refine own_s_istore X7.here hx #[.val (.ref t_), .val (.int u0), .val (.int u1), .val (.int (u0 + (1 : Int32))), .val (.int (own_s7 u1))] (hb hby own_d1_34) rfl ?_
  show own_Go p e below T7 (mkF m 36 #[.val (.ref t_), .val (.int u0), .val (.int u1), .val (.int (u0 + (1 : Int32))), .val (.int (own_s7 u1))] []) _
  refine own_s_goto X7.here hx 5 (hb hby own_d1_36) (by decide) (by decide) ?_
  refine own_s_iload X7.here hx (hb hby own_d1_5) rfl ?_
  refine own_s_bipush X7.here hx (-128 : Int32) (hb hby own_d1_7) rfl ?_
  refine own_s_iand X7.here hx (hb hby own_d1_9) ?_
  refine own_s_ifNo X7.here hx (hb hby own_d1_10) (Jvm.Free.XT.i0_eq_f hj1) ?_
  refine own_s_aloadN X7.here hx (hb hby own_d1_13) rfl rfl ?_
  refine own_s_iloadN X7.here hx (hb hby own_d1_14) rfl ?_
  refine own_by (fun tq_ kq_ => XS.iinc X7.here hx rfl (hb hby own_d1_15) rfl (l' := #[.val (.ref t_), .val (.int u0), .val (.int u1), .val (.int ((u0 + (1 : Int32)) + (1 : Int32))), .val (.int (own_s7 u1))]) rfl kq_) ?_
  show own_Go p e below T7 (mkF m 18 #[.val (.ref t_), .val (.int u0), .val (.int u1), .val (.int ((u0 + (1 : Int32)) + (1 : Int32))), .val (.int (own_s7 u1))] [(.int (u0 + (1 : Int32))), (.ref t_)]) _
  refine own_s_iload X7.here hx (hb hby own_d1_18) rfl ?_
  refine own_s_bipush X7.here hx (127 : Int32) (hb hby own_d1_20) rfl ?_
  refine own_s_iand X7.here hx (hb hby own_d1_22) ?_
  refine own_s_sipush X7.here hx (128 : Int32) (hb hby own_d1_23) rfl ?_
  refine own_s_ior X7.here hx (hb hby own_d1_26) ?_
  refine own_s_i2b X7.here hx (hb hby own_d1_27) ?_
  obtain ⟨T9, h9, X9, e9, W9, fa9, st9⟩ := own_stB X7 hx hZ e7 f8 (k := (ps + 1)) (own_succ hp (by omega)) (by omega) (g := (mkF m 28 #[.val (.ref t_), .val (.int u0), .val (.int u1), .val (.int ((u0 + (1 : Int32)) + (1 : Int32))), .val (.int (own_s7 u1))] [(.int ((((own_s7 u1) &&& (127 : Int32)) ||| (128 : Int32)).toInt8.toInt32)), (.int (u0 + (1 : Int32))), (.ref t_)])) rfl rfl (hb hby own_d1_28)
  have N9 := Fr.snoc X9 N7 ge_t_
  have SZ9 : n0 ≤ h9.size := by rw [W9.size]; exact SZ7
  have K9 := K7.wr W9 (Or.inl (List.mem_of_getElem? (i := 0) rfl))
  refine own_by st9 ?_
  show own_Go p e below T9 (mkF m 29 #[.val (.ref t_), .val (.int u0), .val (.int u1), .val (.int ((u0 + (1 : Int32)) + (1 : Int32))), .val (.int (own_s7 u1))] []) _
  have f10 : own_Av Z h9 t_ .byte 13 (own_upd (own_upd f ps (.int (own_mid u1))) (ps + 1) (.int (own_mid (own_s7 u1)))) := fa9
  refine own_s_iload X9.here hx (hb hby own_d1_29) rfl ?_
  refine own_s_bipush X9.here hx (7 : Int32) (hb hby own_d1_31) rfl ?_
  refine own_s_iushr X9.here hx (hb hby own_d1_33) ?_
  show own_Go p e below T9 (mkF m 34 #[.val (.ref t_), .val (.int u0), .val (.int u1), .val (.int ((u0 + (1 : Int32)) + (1 : Int32))), .val (.int (own_s7 u1))] [(.int (own_s7 (own_s7 u1)))]) _
  refine own_s_istore X9.here hx #[.val (.ref t_), .val (.int u0), .val (.int u1), .val (.int ((u0 + (1 : Int32)) + (1 : Int32))), .val (.int (own_s7 (own_s7 u1)))] (hb hby own_d1_34) rfl ?_
  show own_Go p e below T9 (mkF m 36 #[.val (.ref t_), .val (.int u0), .val (.int u1), .val (.int ((u0 + (1 : Int32)) + (1 : Int32))), .val (.int (own_s7 (own_s7 u1)))] []) _
  refine own_s_goto X9.here hx 5 (hb hby own_d1_36) (by decide) (by decide) ?_
  refine own_s_iload X9.here hx (hb hby own_d1_5) rfl ?_
  refine own_s_bipush X9.here hx (-128 : Int32) (hb hby own_d1_7) rfl ?_
  refine own_s_iand X9.here hx (hb hby own_d1_9) ?_
  show own_Go p e below T9 (mkF m 10 #[.val (.ref t_), .val (.int u0), .val (.int u1), .val (.int ((u0 + (1 : Int32)) + (1 : Int32))), .val (.int (own_s7 (own_s7 u1)))] [(.int ((own_s7 (own_s7 u1)) &&& (-128 : Int32)))]) _
  refine own_s_ifYes X9.here hx 39 (hb hby own_d1_10) (Jvm.Free.XT.i0_eq_t hl) (by decide) (by decide) ?_
  refine own_s_aloadN X9.here hx (hb hby own_d1_39) rfl rfl ?_
  refine own_s_iloadN X9.here hx (hb hby own_d1_40) rfl ?_
  refine own_by (fun tq_ kq_ => XS.iinc X9.here hx rfl (hb hby own_d1_41) rfl (l' := #[.val (.ref t_), .val (.int u0), .val (.int u1), .val (.int (((u0 + (1 : Int32)) + (1 : Int32)) + (1 : Int32))), .val (.int (own_s7 (own_s7 u1)))]) rfl kq_) ?_
  show own_Go p e below T9 (mkF m 44 #[.val (.ref t_), .val (.int u0), .val (.int u1), .val (.int (((u0 + (1 : Int32)) + (1 : Int32)) + (1 : Int32))), .val (.int (own_s7 (own_s7 u1)))] [(.int ((u0 + (1 : Int32)) + (1 : Int32))), (.ref t_)]) _
  refine own_s_iload X9.here hx (hb hby own_d1_44) rfl ?_
  refine own_s_i2b X9.here hx (hb hby own_d1_46) ?_
  obtain ⟨T11, h11, X11, e11, W11, fa11, st11⟩ := own_stB X9 hx hZ e9 f10 (k := ((ps + 1) + 1)) (own_succ (own_succ hp (by omega)) (by omega)) (by omega) (g := (mkF m 47 #[.val (.ref t_), .val (.int u0), .val (.int u1), .val (.int (((u0 + (1 : Int32)) + (1 : Int32)) + (1 : Int32))), .val (.int (own_s7 (own_s7 u1)))] [(.int ((own_s7 (own_s7 u1)).toInt8.toInt32)), (.int ((u0 + (1 : Int32)) + (1 : Int32))), (.ref t_)])) rfl rfl (hb hby own_d1_47)
  have N11 := Fr.snoc X11 N9 ge_t_
  have SZ11 : n0 ≤ h11.size := by rw [W11.size]; exact SZ9
  have K11 := K9.wr W11 (Or.inl (List.mem_of_getElem? (i := 0) rfl))
  refine own_by st11 ?_
  show own_Go p e below T11 (mkF m 48 #[.val (.ref t_), .val (.int u0), .val (.int u1), .val (.int (((u0 + (1 : Int32)) + (1 : Int32)) + (1 : Int32))), .val (.int (own_s7 (own_s7 u1)))] []) _
  have f12 : own_Av Z h11 t_ .byte 13 (own_upd (own_upd (own_upd f ps (.int (own_mid u1))) (ps + 1) (.int (own_mid (own_s7 u1)))) ((ps + 1) + 1) (.int (own_by8 (own_s7 (own_s7 u1))))) := fa11
  refine own_s_iloadN X11.here hx (hb hby own_d1_48) rfl ?_
  refine own_retI X11 hx hret hlk (hb hby own_d1_49) (by decide) (by decide) ?_
  rw [e11]
  exact ⟨rfl, N11, K11, f12⟩
def own_q_own_pv4 (Z : State) (t_ : Addr) (u0 : Int32) (u1 : Int32) (ps : Nat) (f : Nat → Value) (h0 : Heap) (n0 : Nat) (v : Option Value) (h : Heap) (L : List Loc) : Prop := v = some (.int ((((u0 + (1 : Int32)) + (1 : Int32)) + (1 : Int32)) + (1 : Int32))) ∧ Fr n0 L ∧ Keep h0 h [t_] ∧ own_Av Z h t_ .byte 13 (own_upd (own_upd (own_upd (own_upd f ps (.int (own_mid u1))) (ps + 1) (.int (own_mid (own_s7 u1)))) ((ps + 1) + 1) (.int (own_mid (own_s7 (own_s7 u1))))) (((ps + 1) + 1) + 1) (.int (own_by8 (own_s7 (own_s7 (own_s7 u1))))))
set_option maxRecDepth 65536 in
set_option maxHeartbeats 40000000 in
theorem own_pv4 (l : Launch) (Z : State) (a0 : Array Value) (hw : ∀ d ∈ tables_1, d.before a0 Z = true) (ws : List Jvm.Cond) (t_ : Addr) (u0 : Int32) (u1 : Int32) (ps : Nat) (f : Nat → Value) (h0 : Heap) (n0 : Nat) (Z0 : n0 ≤ h0.size) (hp : own_At u0 ps) (hps : ps + 4 ≤ 13) (hj0 : ¬ (u1 &&& (-128 : Int32)) = 0) (hj1 : ¬ ((own_s7 u1) &&& (-128 : Int32)) = 0) (hj2 : ¬ ((own_s7 (own_s7 u1)) &&& (-128 : Int32)) = 0) (hl : ((own_s7 (own_s7 (own_s7 u1))) &&& (-128 : Int32)) = 0) (A_t_ : own_Av Z h0 t_ .byte 13 f) (ge_t_ : n0 ≤ t_) :
    MetFree l (⟨"com/example/fold_time/foldtime/model/ByteWriter", "putVarint", "([BII)I"⟩ : MethodName) (head1 (Jvm.Cond.code (⟨"com/example/fold_time/foldtime/model/ByteWriter", "putVarint", "([BII)I"⟩ : MethodName) prog_6_method_4_code 5 (some .int) :: ws) ({ frames := 0, cells := 0, slots := 0, locals := 0 } : Room)) (fun aq Uq => aq = #[(.ref t_), (.int u0), (.int u1)] ∧ Z.Warmed39 Uq.vm ∧ Uq.heap = h0) (fun _ _ _ _ _ => True) (fun _ Uq oq Uq' => ∃ vq Lq, oq = .returned vq ∧ own_q_own_pv4 Z t_ u0 u1 ps f h0 n0 vq Uq'.heap Lq ∧ FrameEnd Uq oq Uq' Lq ({ frames := 0, cells := 0, slots := 0, locals := 0 } : Room).cells ({ frames := 0, cells := 0, slots := 0, locals := 0 } : Room).slots) := by
  refine MetFree.of_bodySF (plainFor_of_name own_pn_ByteWriter) hisR ?_
  intro p e s m args below meth c T0 Bd hml0 hP hK
  obtain ⟨rfl, hZ, hh⟩ := hP
  have hx := Bd.exec
  have hby := Bd.bytes
  have hml : c.maxLocals = 5 := hml0
  have hown : s.vm.findClass "com/example/fold_time/foldtime/model/ByteWriter" = some m.cls := findClass_of_methodNamed Bd.named
  have hnm := (name_of_methodNamed Bd.named Bd.method).1
  have hret : meth.sig.returnType = (some .int) := Bd.returns
  have hlk : meth.locks = false := BodyLoose.notSynchronized Bd
  have X0 : Stand p l e ({ frames := 0, cells := 0, slots := 0, locals := 0 } : Room) s m #[(.ref t_), (.int u0), (.int u1)] below meth c T0 [] 0 0 := Stand.of_body Bd
  have e0 : T0.heap = h0 := by rw [← hh, Bd.state]; rfl
  have N0 := Fr.nil n0
  refine own_start (own_ef1 m t_ u0 u1) (Q := fun (v : Option Value) (h : Heap) (L : List Loc) => v = some (.int ((((u0 + (1 : Int32)) + (1 : Int32)) + (1 : Int32)) + (1 : Int32))) ∧ Fr n0 L ∧ Keep h0 h [t_] ∧ own_Av Z h t_ .byte 13 (own_upd (own_upd (own_upd (own_upd f ps (.int (own_mid u1))) (ps + 1) (.int (own_mid (own_s7 u1)))) ((ps + 1) + 1) (.int (own_mid (own_s7 (own_s7 u1))))) (((ps + 1) + 1) + 1) (.int (own_by8 (own_s7 (own_s7 (own_s7 u1))))))) (k := 0) (j := 0) ?_
  show own_Go p e below T0 (mkF m 0 #[.val (.ref t_), .val (.int u0), .val (.int u1), .unset, .unset] []) _
  have K0 := Keep.refl h0 [t_]
  refine own_s_iloadN X0.here hx (hb hby own_d1_0) rfl ?_
  refine own_s_istoreN X0.here hx #[.val (.ref t_), .val (.int u0), .val (.int u1), .val (.int u0), .unset] (hb hby own_d1_1) rfl ?_
  refine own_s_iloadN X0.here hx (hb hby own_d1_2) rfl ?_
  refine own_s_istore X0.here hx #[.val (.ref t_), .val (.int u0), .val (.int u1), .val (.int u0), .val (.int u1)] (hb hby own_d1_3) rfl ?_
  refine own_s_iload X0.here hx (hb hby own_d1_5) rfl ?_
  refine own_s_bipush X0.here hx (-128 : Int32) (hb hby own_d1_7) rfl ?_
  refine own_s_iand X0.here hx (hb hby own_d1_9) ?_
  refine own_s_ifNo X0.here hx (hb hby own_d1_10) (Jvm.Free.XT.i0_eq_f hj0) ?_
  refine own_s_aloadN X0.here hx (hb hby own_d1_13) rfl rfl ?_
  refine own_s_iloadN X0.here hx (hb hby own_d1_14) rfl ?_
  refine own_by (fun tq_ kq_ => XS.iinc X0.here hx rfl (hb hby own_d1_15) rfl (l' := #[.val (.ref t_), .val (.int u0), .val (.int u1), .val (.int (u0 + (1 : Int32))), .val (.int u1)]) rfl kq_) ?_
  show own_Go p e below T0 (mkF m 18 #[.val (.ref t_), .val (.int u0), .val (.int u1), .val (.int (u0 + (1 : Int32))), .val (.int u1)] [(.int u0), (.ref t_)]) _
  refine own_s_iload X0.here hx (hb hby own_d1_18) rfl ?_
  refine own_s_bipush X0.here hx (127 : Int32) (hb hby own_d1_20) rfl ?_
  refine own_s_iand X0.here hx (hb hby own_d1_22) ?_
  refine own_s_sipush X0.here hx (128 : Int32) (hb hby own_d1_23) rfl ?_
  refine own_s_ior X0.here hx (hb hby own_d1_26) ?_
  refine own_s_i2b X0.here hx (hb hby own_d1_27) ?_
  obtain ⟨T13, h13, X13, e13, W13, fa13, st13⟩ := own_stB X0 hx hZ e0 A_t_ (k := ps) hp (by omega) (g := (mkF m 28 #[.val (.ref t_), .val (.int u0), .val (.int u1), .val (.int (u0 + (1 : Int32))), .val (.int u1)] [(.int (((u1 &&& (127 : Int32)) ||| (128 : Int32)).toInt8.toInt32)), (.int u0), (.ref t_)])) rfl rfl (hb hby own_d1_28)
  have N13 := Fr.snoc X13 N0 ge_t_
  have SZ13 : n0 ≤ h13.size := by rw [W13.size]; exact Z0
  have K13 := K0.wr W13 (Or.inl (List.mem_of_getElem? (i := 0) rfl))
  refine own_by st13 ?_
  show own_Go p e below T13 (mkF m 29 #[.val (.ref t_), .val (.int u0), .val (.int u1), .val (.int (u0 + (1 : Int32))), .val (.int u1)] []) _
  have f14 : own_Av Z h13 t_ .byte 13 (own_upd f ps (.int (own_mid u1))) := fa13
  refine own_s_iload X13.here hx (hb hby own_d1_29) rfl ?_
  refine own_s_bipush X13.here hx (7 : Int32) (hb hby own_d1_31) rfl ?_
  refine own_s_iushr X13.here hx (hb hby own_d1_33) ?_
  show own_Go p e below T13 (mkF m 34 #[.val (.ref t_), .val (.int u0), .val (.int u1), .val (.int (u0 + (1 : Int32))), .val (.int u1)] [(.int (own_s7 u1))]) _
  refine own_s_istore X13.here hx #[.val (.ref t_), .val (.int u0), .val (.int u1), .val (.int (u0 + (1 : Int32))), .val (.int (own_s7 u1))] (hb hby own_d1_34) rfl ?_
  show own_Go p e below T13 (mkF m 36 #[.val (.ref t_), .val (.int u0), .val (.int u1), .val (.int (u0 + (1 : Int32))), .val (.int (own_s7 u1))] []) _
  refine own_s_goto X13.here hx 5 (hb hby own_d1_36) (by decide) (by decide) ?_
  refine own_s_iload X13.here hx (hb hby own_d1_5) rfl ?_
  refine own_s_bipush X13.here hx (-128 : Int32) (hb hby own_d1_7) rfl ?_
  refine own_s_iand X13.here hx (hb hby own_d1_9) ?_
  refine own_s_ifNo X13.here hx (hb hby own_d1_10) (Jvm.Free.XT.i0_eq_f hj1) ?_
  refine own_s_aloadN X13.here hx (hb hby own_d1_13) rfl rfl ?_
  refine own_s_iloadN X13.here hx (hb hby own_d1_14) rfl ?_
  refine own_by (fun tq_ kq_ => XS.iinc X13.here hx rfl (hb hby own_d1_15) rfl (l' := #[.val (.ref t_), .val (.int u0), .val (.int u1), .val (.int ((u0 + (1 : Int32)) + (1 : Int32))), .val (.int (own_s7 u1))]) rfl kq_) ?_
  show own_Go p e below T13 (mkF m 18 #[.val (.ref t_), .val (.int u0), .val (.int u1), .val (.int ((u0 + (1 : Int32)) + (1 : Int32))), .val (.int (own_s7 u1))] [(.int (u0 + (1 : Int32))), (.ref t_)]) _
  refine own_s_iload X13.here hx (hb hby own_d1_18) rfl ?_
  refine own_s_bipush X13.here hx (127 : Int32) (hb hby own_d1_20) rfl ?_
  refine own_s_iand X13.here hx (hb hby own_d1_22) ?_
  refine own_s_sipush X13.here hx (128 : Int32) (hb hby own_d1_23) rfl ?_
  refine own_s_ior X13.here hx (hb hby own_d1_26) ?_
  refine own_s_i2b X13.here hx (hb hby own_d1_27) ?_
  obtain ⟨T15, h15, X15, e15, W15, fa15, st15⟩ := own_stB X13 hx hZ e13 f14 (k := (ps + 1)) (own_succ hp (by omega)) (by omega) (g := (mkF m 28 #[.val (.ref t_), .val (.int u0), .val (.int u1), .val (.int ((u0 + (1 : Int32)) + (1 : Int32))), .val (.int (own_s7 u1))] [(.int ((((own_s7 u1) &&& (127 : Int32)) ||| (128 : Int32)).toInt8.toInt32)), (.int (u0 + (1 : Int32))), (.ref t_)])) rfl rfl (hb hby own_d1_28)
  have N15 := Fr.snoc X15 N13 ge_t_
  have SZ15 : n0 ≤ h15.size := by rw [W15.size]; exact SZ13
  have K15 := K13.wr W15 (Or.inl (List.mem_of_getElem? (i := 0) rfl))
  refine own_by st15 ?_
  show own_Go p e below T15 (mkF m 29 #[.val (.ref t_), .val (.int u0), .val (.int u1), .val (.int ((u0 + (1 : Int32)) + (1 : Int32))), .val (.int (own_s7 u1))] []) _
  have f16 : own_Av Z h15 t_ .byte 13 (own_upd (own_upd f ps (.int (own_mid u1))) (ps + 1) (.int (own_mid (own_s7 u1)))) := fa15
  refine own_s_iload X15.here hx (hb hby own_d1_29) rfl ?_
  refine own_s_bipush X15.here hx (7 : Int32) (hb hby own_d1_31) rfl ?_
  refine own_s_iushr X15.here hx (hb hby own_d1_33) ?_
  show own_Go p e below T15 (mkF m 34 #[.val (.ref t_), .val (.int u0), .val (.int u1), .val (.int ((u0 + (1 : Int32)) + (1 : Int32))), .val (.int (own_s7 u1))] [(.int (own_s7 (own_s7 u1)))]) _
  refine own_s_istore X15.here hx #[.val (.ref t_), .val (.int u0), .val (.int u1), .val (.int ((u0 + (1 : Int32)) + (1 : Int32))), .val (.int (own_s7 (own_s7 u1)))] (hb hby own_d1_34) rfl ?_
  show own_Go p e below T15 (mkF m 36 #[.val (.ref t_), .val (.int u0), .val (.int u1), .val (.int ((u0 + (1 : Int32)) + (1 : Int32))), .val (.int (own_s7 (own_s7 u1)))] []) _
  refine own_s_goto X15.here hx 5 (hb hby own_d1_36) (by decide) (by decide) ?_
  refine own_s_iload X15.here hx (hb hby own_d1_5) rfl ?_
  refine own_s_bipush X15.here hx (-128 : Int32) (hb hby own_d1_7) rfl ?_
  refine own_s_iand X15.here hx (hb hby own_d1_9) ?_
  refine own_s_ifNo X15.here hx (hb hby own_d1_10) (Jvm.Free.XT.i0_eq_f hj2) ?_
  refine own_s_aloadN X15.here hx (hb hby own_d1_13) rfl rfl ?_
  refine own_s_iloadN X15.here hx (hb hby own_d1_14) rfl ?_
  refine own_by (fun tq_ kq_ => XS.iinc X15.here hx rfl (hb hby own_d1_15) rfl (l' := #[.val (.ref t_), .val (.int u0), .val (.int u1), .val (.int (((u0 + (1 : Int32)) + (1 : Int32)) + (1 : Int32))), .val (.int (own_s7 (own_s7 u1)))]) rfl kq_) ?_
  show own_Go p e below T15 (mkF m 18 #[.val (.ref t_), .val (.int u0), .val (.int u1), .val (.int (((u0 + (1 : Int32)) + (1 : Int32)) + (1 : Int32))), .val (.int (own_s7 (own_s7 u1)))] [(.int ((u0 + (1 : Int32)) + (1 : Int32))), (.ref t_)]) _
  refine own_s_iload X15.here hx (hb hby own_d1_18) rfl ?_
  refine own_s_bipush X15.here hx (127 : Int32) (hb hby own_d1_20) rfl ?_
  refine own_s_iand X15.here hx (hb hby own_d1_22) ?_
  refine own_s_sipush X15.here hx (128 : Int32) (hb hby own_d1_23) rfl ?_
  refine own_s_ior X15.here hx (hb hby own_d1_26) ?_
  refine own_s_i2b X15.here hx (hb hby own_d1_27) ?_
  obtain ⟨T17, h17, X17, e17, W17, fa17, st17⟩ := own_stB X15 hx hZ e15 f16 (k := ((ps + 1) + 1)) (own_succ (own_succ hp (by omega)) (by omega)) (by omega) (g := (mkF m 28 #[.val (.ref t_), .val (.int u0), .val (.int u1), .val (.int (((u0 + (1 : Int32)) + (1 : Int32)) + (1 : Int32))), .val (.int (own_s7 (own_s7 u1)))] [(.int ((((own_s7 (own_s7 u1)) &&& (127 : Int32)) ||| (128 : Int32)).toInt8.toInt32)), (.int ((u0 + (1 : Int32)) + (1 : Int32))), (.ref t_)])) rfl rfl (hb hby own_d1_28)
  have N17 := Fr.snoc X17 N15 ge_t_
  have SZ17 : n0 ≤ h17.size := by rw [W17.size]; exact SZ15
  have K17 := K15.wr W17 (Or.inl (List.mem_of_getElem? (i := 0) rfl))
  refine own_by st17 ?_
  show own_Go p e below T17 (mkF m 29 #[.val (.ref t_), .val (.int u0), .val (.int u1), .val (.int (((u0 + (1 : Int32)) + (1 : Int32)) + (1 : Int32))), .val (.int (own_s7 (own_s7 u1)))] []) _
  have f18 : own_Av Z h17 t_ .byte 13 (own_upd (own_upd (own_upd f ps (.int (own_mid u1))) (ps + 1) (.int (own_mid (own_s7 u1)))) ((ps + 1) + 1) (.int (own_mid (own_s7 (own_s7 u1))))) := fa17
  refine own_s_iload X17.here hx (hb hby own_d1_29) rfl ?_
  refine own_s_bipush X17.here hx (7 : Int32) (hb hby own_d1_31) rfl ?_
  refine own_s_iushr X17.here hx (hb hby own_d1_33) ?_
  show own_Go p e below T17 (mkF m 34 #[.val (.ref t_), .val (.int u0), .val (.int u1), .val (.int (((u0 + (1 : Int32)) + (1 : Int32)) + (1 : Int32))), .val (.int (own_s7 (own_s7 u1)))] [(.int (own_s7 (own_s7 (own_s7 u1))))]) _
  refine own_s_istore X17.here hx #[.val (.ref t_), .val (.int u0), .val (.int u1), .val (.int (((u0 + (1 : Int32)) + (1 : Int32)) + (1 : Int32))), .val (.int (own_s7 (own_s7 (own_s7 u1))))] (hb hby own_d1_34) rfl ?_
  show own_Go p e below T17 (mkF m 36 #[.val (.ref t_), .val (.int u0), .val (.int u1), .val (.int (((u0 + (1 : Int32)) + (1 : Int32)) + (1 : Int32))), .val (.int (own_s7 (own_s7 (own_s7 u1))))] []) _
  refine own_s_goto X17.here hx 5 (hb hby own_d1_36) (by decide) (by decide) ?_
  refine own_s_iload X17.here hx (hb hby own_d1_5) rfl ?_
  refine own_s_bipush X17.here hx (-128 : Int32) (hb hby own_d1_7) rfl ?_
  refine own_s_iand X17.here hx (hb hby own_d1_9) ?_
  show own_Go p e below T17 (mkF m 10 #[.val (.ref t_), .val (.int u0), .val (.int u1), .val (.int (((u0 + (1 : Int32)) + (1 : Int32)) + (1 : Int32))), .val (.int (own_s7 (own_s7 (own_s7 u1))))] [(.int ((own_s7 (own_s7 (own_s7 u1))) &&& (-128 : Int32)))]) _
  refine own_s_ifYes X17.here hx 39 (hb hby own_d1_10) (Jvm.Free.XT.i0_eq_t hl) (by decide) (by decide) ?_
  refine own_s_aloadN X17.here hx (hb hby own_d1_39) rfl rfl ?_
  refine own_s_iloadN X17.here hx (hb hby own_d1_40) rfl ?_
  refine own_by (fun tq_ kq_ => XS.iinc X17.here hx rfl (hb hby own_d1_41) rfl (l' := #[.val (.ref t_), .val (.int u0), .val (.int u1), .val (.int ((((u0 + (1 : Int32)) + (1 : Int32)) + (1 : Int32)) + (1 : Int32))), .val (.int (own_s7 (own_s7 (own_s7 u1))))]) rfl kq_) ?_
  show own_Go p e below T17 (mkF m 44 #[.val (.ref t_), .val (.int u0), .val (.int u1), .val (.int ((((u0 + (1 : Int32)) + (1 : Int32)) + (1 : Int32)) + (1 : Int32))), .val (.int (own_s7 (own_s7 (own_s7 u1))))] [(.int (((u0 + (1 : Int32)) + (1 : Int32)) + (1 : Int32))), (.ref t_)]) _
  refine own_s_iload X17.here hx (hb hby own_d1_44) rfl ?_
  refine own_s_i2b X17.here hx (hb hby own_d1_46) ?_
  obtain ⟨T19, h19, X19, e19, W19, fa19, st19⟩ := own_stB X17 hx hZ e17 f18 (k := (((ps + 1) + 1) + 1)) (own_succ (own_succ (own_succ hp (by omega)) (by omega)) (by omega)) (by omega) (g := (mkF m 47 #[.val (.ref t_), .val (.int u0), .val (.int u1), .val (.int ((((u0 + (1 : Int32)) + (1 : Int32)) + (1 : Int32)) + (1 : Int32))), .val (.int (own_s7 (own_s7 (own_s7 u1))))] [(.int ((own_s7 (own_s7 (own_s7 u1))).toInt8.toInt32)), (.int (((u0 + (1 : Int32)) + (1 : Int32)) + (1 : Int32))), (.ref t_)])) rfl rfl (hb hby own_d1_47)
  have N19 := Fr.snoc X19 N17 ge_t_
  have SZ19 : n0 ≤ h19.size := by rw [W19.size]; exact SZ17
  have K19 := K17.wr W19 (Or.inl (List.mem_of_getElem? (i := 0) rfl))
  refine own_by st19 ?_
  show own_Go p e below T19 (mkF m 48 #[.val (.ref t_), .val (.int u0), .val (.int u1), .val (.int ((((u0 + (1 : Int32)) + (1 : Int32)) + (1 : Int32)) + (1 : Int32))), .val (.int (own_s7 (own_s7 (own_s7 u1))))] []) _
  have f20 : own_Av Z h19 t_ .byte 13 (own_upd (own_upd (own_upd (own_upd f ps (.int (own_mid u1))) (ps + 1) (.int (own_mid (own_s7 u1)))) ((ps + 1) + 1) (.int (own_mid (own_s7 (own_s7 u1))))) (((ps + 1) + 1) + 1) (.int (own_by8 (own_s7 (own_s7 (own_s7 u1)))))) := fa19
  refine own_s_iloadN X19.here hx (hb hby own_d1_48) rfl ?_
  refine own_retI X19 hx hret hlk (hb hby own_d1_49) (by decide) (by decide) ?_
  rw [e19]
  exact ⟨rfl, N19, K19, f20⟩
def own_q_own_pv5 (Z : State) (t_ : Addr) (u0 : Int32) (u1 : Int32) (ps : Nat) (f : Nat → Value) (h0 : Heap) (n0 : Nat) (v : Option Value) (h : Heap) (L : List Loc) : Prop := v = some (.int (((((u0 + (1 : Int32)) + (1 : Int32)) + (1 : Int32)) + (1 : Int32)) + (1 : Int32))) ∧ Fr n0 L ∧ Keep h0 h [t_] ∧ own_Av Z h t_ .byte 13 (own_upd (own_upd (own_upd (own_upd (own_upd f ps (.int (own_mid u1))) (ps + 1) (.int (own_mid (own_s7 u1)))) ((ps + 1) + 1) (.int (own_mid (own_s7 (own_s7 u1))))) (((ps + 1) + 1) + 1) (.int (own_mid (own_s7 (own_s7 (own_s7 u1)))))) ((((ps + 1) + 1) + 1) + 1) (.int (own_by8 (own_s7 (own_s7 (own_s7 (own_s7 u1)))))))
set_option maxRecDepth 65536 in
set_option maxHeartbeats 40000000 in
theorem own_pv5 (l : Launch) (Z : State) (a0 : Array Value) (hw : ∀ d ∈ tables_1, d.before a0 Z = true) (ws : List Jvm.Cond) (t_ : Addr) (u0 : Int32) (u1 : Int32) (ps : Nat) (f : Nat → Value) (h0 : Heap) (n0 : Nat) (Z0 : n0 ≤ h0.size) (hp : own_At u0 ps) (hps : ps + 5 ≤ 13) (hj0 : ¬ (u1 &&& (-128 : Int32)) = 0) (hj1 : ¬ ((own_s7 u1) &&& (-128 : Int32)) = 0) (hj2 : ¬ ((own_s7 (own_s7 u1)) &&& (-128 : Int32)) = 0) (hj3 : ¬ ((own_s7 (own_s7 (own_s7 u1))) &&& (-128 : Int32)) = 0) (hl : ((own_s7 (own_s7 (own_s7 (own_s7 u1)))) &&& (-128 : Int32)) = 0) (A_t_ : own_Av Z h0 t_ .byte 13 f) (ge_t_ : n0 ≤ t_) :
    MetFree l (⟨"com/example/fold_time/foldtime/model/ByteWriter", "putVarint", "([BII)I"⟩ : MethodName) (head1 (Jvm.Cond.code (⟨"com/example/fold_time/foldtime/model/ByteWriter", "putVarint", "([BII)I"⟩ : MethodName) prog_6_method_4_code 5 (some .int) :: ws) ({ frames := 0, cells := 0, slots := 0, locals := 0 } : Room)) (fun aq Uq => aq = #[(.ref t_), (.int u0), (.int u1)] ∧ Z.Warmed39 Uq.vm ∧ Uq.heap = h0) (fun _ _ _ _ _ => True) (fun _ Uq oq Uq' => ∃ vq Lq, oq = .returned vq ∧ own_q_own_pv5 Z t_ u0 u1 ps f h0 n0 vq Uq'.heap Lq ∧ FrameEnd Uq oq Uq' Lq ({ frames := 0, cells := 0, slots := 0, locals := 0 } : Room).cells ({ frames := 0, cells := 0, slots := 0, locals := 0 } : Room).slots) := by
  refine MetFree.of_bodySF (plainFor_of_name own_pn_ByteWriter) hisR ?_
  intro p e s m args below meth c T0 Bd hml0 hP hK
  obtain ⟨rfl, hZ, hh⟩ := hP
  have hx := Bd.exec
  have hby := Bd.bytes
  have hml : c.maxLocals = 5 := hml0
  have hown : s.vm.findClass "com/example/fold_time/foldtime/model/ByteWriter" = some m.cls := findClass_of_methodNamed Bd.named
  have hnm := (name_of_methodNamed Bd.named Bd.method).1
  have hret : meth.sig.returnType = (some .int) := Bd.returns
  have hlk : meth.locks = false := BodyLoose.notSynchronized Bd
  have X0 : Stand p l e ({ frames := 0, cells := 0, slots := 0, locals := 0 } : Room) s m #[(.ref t_), (.int u0), (.int u1)] below meth c T0 [] 0 0 := Stand.of_body Bd
  have e0 : T0.heap = h0 := by rw [← hh, Bd.state]; rfl
  have N0 := Fr.nil n0
  refine own_start (own_ef1 m t_ u0 u1) (Q := fun (v : Option Value) (h : Heap) (L : List Loc) => v = some (.int (((((u0 + (1 : Int32)) + (1 : Int32)) + (1 : Int32)) + (1 : Int32)) + (1 : Int32))) ∧ Fr n0 L ∧ Keep h0 h [t_] ∧ own_Av Z h t_ .byte 13 (own_upd (own_upd (own_upd (own_upd (own_upd f ps (.int (own_mid u1))) (ps + 1) (.int (own_mid (own_s7 u1)))) ((ps + 1) + 1) (.int (own_mid (own_s7 (own_s7 u1))))) (((ps + 1) + 1) + 1) (.int (own_mid (own_s7 (own_s7 (own_s7 u1)))))) ((((ps + 1) + 1) + 1) + 1) (.int (own_by8 (own_s7 (own_s7 (own_s7 (own_s7 u1)))))))) (k := 0) (j := 0) ?_
  show own_Go p e below T0 (mkF m 0 #[.val (.ref t_), .val (.int u0), .val (.int u1), .unset, .unset] []) _
  have K0 := Keep.refl h0 [t_]
  refine own_s_iloadN X0.here hx (hb hby own_d1_0) rfl ?_
  refine own_s_istoreN X0.here hx #[.val (.ref t_), .val (.int u0), .val (.int u1), .val (.int u0), .unset] (hb hby own_d1_1) rfl ?_
  refine own_s_iloadN X0.here hx (hb hby own_d1_2) rfl ?_
  refine own_s_istore X0.here hx #[.val (.ref t_), .val (.int u0), .val (.int u1), .val (.int u0), .val (.int u1)] (hb hby own_d1_3) rfl ?_
  refine own_s_iload X0.here hx (hb hby own_d1_5) rfl ?_
  refine own_s_bipush X0.here hx (-128 : Int32) (hb hby own_d1_7) rfl ?_
  refine own_s_iand X0.here hx (hb hby own_d1_9) ?_
  refine own_s_ifNo X0.here hx (hb hby own_d1_10) (Jvm.Free.XT.i0_eq_f hj0) ?_
  refine own_s_aloadN X0.here hx (hb hby own_d1_13) rfl rfl ?_
  refine own_s_iloadN X0.here hx (hb hby own_d1_14) rfl ?_
  refine own_by (fun tq_ kq_ => XS.iinc X0.here hx rfl (hb hby own_d1_15) rfl (l' := #[.val (.ref t_), .val (.int u0), .val (.int u1), .val (.int (u0 + (1 : Int32))), .val (.int u1)]) rfl kq_) ?_
  show own_Go p e below T0 (mkF m 18 #[.val (.ref t_), .val (.int u0), .val (.int u1), .val (.int (u0 + (1 : Int32))), .val (.int u1)] [(.int u0), (.ref t_)]) _
  refine own_s_iload X0.here hx (hb hby own_d1_18) rfl ?_
  refine own_s_bipush X0.here hx (127 : Int32) (hb hby own_d1_20) rfl ?_
  refine own_s_iand X0.here hx (hb hby own_d1_22) ?_
  refine own_s_sipush X0.here hx (128 : Int32) (hb hby own_d1_23) rfl ?_
  refine own_s_ior X0.here hx (hb hby own_d1_26) ?_
  refine own_s_i2b X0.here hx (hb hby own_d1_27) ?_
  obtain ⟨T21, h21, X21, e21, W21, fa21, st21⟩ := own_stB X0 hx hZ e0 A_t_ (k := ps) hp (by omega) (g := (mkF m 28 #[.val (.ref t_), .val (.int u0), .val (.int u1), .val (.int (u0 + (1 : Int32))), .val (.int u1)] [(.int (((u1 &&& (127 : Int32)) ||| (128 : Int32)).toInt8.toInt32)), (.int u0), (.ref t_)])) rfl rfl (hb hby own_d1_28)
  have N21 := Fr.snoc X21 N0 ge_t_
  have SZ21 : n0 ≤ h21.size := by rw [W21.size]; exact Z0
  have K21 := K0.wr W21 (Or.inl (List.mem_of_getElem? (i := 0) rfl))
  refine own_by st21 ?_
  show own_Go p e below T21 (mkF m 29 #[.val (.ref t_), .val (.int u0), .val (.int u1), .val (.int (u0 + (1 : Int32))), .val (.int u1)] []) _
  have f22 : own_Av Z h21 t_ .byte 13 (own_upd f ps (.int (own_mid u1))) := fa21
  refine own_s_iload X21.here hx (hb hby own_d1_29) rfl ?_
  refine own_s_bipush X21.here hx (7 : Int32) (hb hby own_d1_31) rfl ?_
  refine own_s_iushr X21.here hx (hb hby own_d1_33) ?_
  show own_Go p e below T21 (mkF m 34 #[.val (.ref t_), .val (.int u0), .val (.int u1), .val (.int (u0 + (1 : Int32))), .val (.int u1)] [(.int (own_s7 u1))]) _
  refine own_s_istore X21.here hx #[.val (.ref t_), .val (.int u0), .val (.int u1), .val (.int (u0 + (1 : Int32))), .val (.int (own_s7 u1))] (hb hby own_d1_34) rfl ?_
  show own_Go p e below T21 (mkF m 36 #[.val (.ref t_), .val (.int u0), .val (.int u1), .val (.int (u0 + (1 : Int32))), .val (.int (own_s7 u1))] []) _
  refine own_s_goto X21.here hx 5 (hb hby own_d1_36) (by decide) (by decide) ?_
  refine own_s_iload X21.here hx (hb hby own_d1_5) rfl ?_
  refine own_s_bipush X21.here hx (-128 : Int32) (hb hby own_d1_7) rfl ?_
  refine own_s_iand X21.here hx (hb hby own_d1_9) ?_
  refine own_s_ifNo X21.here hx (hb hby own_d1_10) (Jvm.Free.XT.i0_eq_f hj1) ?_
  refine own_s_aloadN X21.here hx (hb hby own_d1_13) rfl rfl ?_
  refine own_s_iloadN X21.here hx (hb hby own_d1_14) rfl ?_
  refine own_by (fun tq_ kq_ => XS.iinc X21.here hx rfl (hb hby own_d1_15) rfl (l' := #[.val (.ref t_), .val (.int u0), .val (.int u1), .val (.int ((u0 + (1 : Int32)) + (1 : Int32))), .val (.int (own_s7 u1))]) rfl kq_) ?_
  show own_Go p e below T21 (mkF m 18 #[.val (.ref t_), .val (.int u0), .val (.int u1), .val (.int ((u0 + (1 : Int32)) + (1 : Int32))), .val (.int (own_s7 u1))] [(.int (u0 + (1 : Int32))), (.ref t_)]) _
  refine own_s_iload X21.here hx (hb hby own_d1_18) rfl ?_
  refine own_s_bipush X21.here hx (127 : Int32) (hb hby own_d1_20) rfl ?_
  refine own_s_iand X21.here hx (hb hby own_d1_22) ?_
  refine own_s_sipush X21.here hx (128 : Int32) (hb hby own_d1_23) rfl ?_
  refine own_s_ior X21.here hx (hb hby own_d1_26) ?_
  refine own_s_i2b X21.here hx (hb hby own_d1_27) ?_
  obtain ⟨T23, h23, X23, e23, W23, fa23, st23⟩ := own_stB X21 hx hZ e21 f22 (k := (ps + 1)) (own_succ hp (by omega)) (by omega) (g := (mkF m 28 #[.val (.ref t_), .val (.int u0), .val (.int u1), .val (.int ((u0 + (1 : Int32)) + (1 : Int32))), .val (.int (own_s7 u1))] [(.int ((((own_s7 u1) &&& (127 : Int32)) ||| (128 : Int32)).toInt8.toInt32)), (.int (u0 + (1 : Int32))), (.ref t_)])) rfl rfl (hb hby own_d1_28)
  have N23 := Fr.snoc X23 N21 ge_t_
  have SZ23 : n0 ≤ h23.size := by rw [W23.size]; exact SZ21
  have K23 := K21.wr W23 (Or.inl (List.mem_of_getElem? (i := 0) rfl))
  refine own_by st23 ?_
  show own_Go p e below T23 (mkF m 29 #[.val (.ref t_), .val (.int u0), .val (.int u1), .val (.int ((u0 + (1 : Int32)) + (1 : Int32))), .val (.int (own_s7 u1))] []) _
  have f24 : own_Av Z h23 t_ .byte 13 (own_upd (own_upd f ps (.int (own_mid u1))) (ps + 1) (.int (own_mid (own_s7 u1)))) := fa23
  refine own_s_iload X23.here hx (hb hby own_d1_29) rfl ?_
  refine own_s_bipush X23.here hx (7 : Int32) (hb hby own_d1_31) rfl ?_
  refine own_s_iushr X23.here hx (hb hby own_d1_33) ?_
  show own_Go p e below T23 (mkF m 34 #[.val (.ref t_), .val (.int u0), .val (.int u1), .val (.int ((u0 + (1 : Int32)) + (1 : Int32))), .val (.int (own_s7 u1))] [(.int (own_s7 (own_s7 u1)))]) _
  refine own_s_istore X23.here hx #[.val (.ref t_), .val (.int u0), .val (.int u1), .val (.int ((u0 + (1 : Int32)) + (1 : Int32))), .val (.int (own_s7 (own_s7 u1)))] (hb hby own_d1_34) rfl ?_
  show own_Go p e below T23 (mkF m 36 #[.val (.ref t_), .val (.int u0), .val (.int u1), .val (.int ((u0 + (1 : Int32)) + (1 : Int32))), .val (.int (own_s7 (own_s7 u1)))] []) _
  refine own_s_goto X23.here hx 5 (hb hby own_d1_36) (by decide) (by decide) ?_
  refine own_s_iload X23.here hx (hb hby own_d1_5) rfl ?_
  refine own_s_bipush X23.here hx (-128 : Int32) (hb hby own_d1_7) rfl ?_
  refine own_s_iand X23.here hx (hb hby own_d1_9) ?_
  refine own_s_ifNo X23.here hx (hb hby own_d1_10) (Jvm.Free.XT.i0_eq_f hj2) ?_
  refine own_s_aloadN X23.here hx (hb hby own_d1_13) rfl rfl ?_
  refine own_s_iloadN X23.here hx (hb hby own_d1_14) rfl ?_
  refine own_by (fun tq_ kq_ => XS.iinc X23.here hx rfl (hb hby own_d1_15) rfl (l' := #[.val (.ref t_), .val (.int u0), .val (.int u1), .val (.int (((u0 + (1 : Int32)) + (1 : Int32)) + (1 : Int32))), .val (.int (own_s7 (own_s7 u1)))]) rfl kq_) ?_
  show own_Go p e below T23 (mkF m 18 #[.val (.ref t_), .val (.int u0), .val (.int u1), .val (.int (((u0 + (1 : Int32)) + (1 : Int32)) + (1 : Int32))), .val (.int (own_s7 (own_s7 u1)))] [(.int ((u0 + (1 : Int32)) + (1 : Int32))), (.ref t_)]) _
  refine own_s_iload X23.here hx (hb hby own_d1_18) rfl ?_
  refine own_s_bipush X23.here hx (127 : Int32) (hb hby own_d1_20) rfl ?_
  refine own_s_iand X23.here hx (hb hby own_d1_22) ?_
  refine own_s_sipush X23.here hx (128 : Int32) (hb hby own_d1_23) rfl ?_
  refine own_s_ior X23.here hx (hb hby own_d1_26) ?_
  refine own_s_i2b X23.here hx (hb hby own_d1_27) ?_
  obtain ⟨T25, h25, X25, e25, W25, fa25, st25⟩ := own_stB X23 hx hZ e23 f24 (k := ((ps + 1) + 1)) (own_succ (own_succ hp (by omega)) (by omega)) (by omega) (g := (mkF m 28 #[.val (.ref t_), .val (.int u0), .val (.int u1), .val (.int (((u0 + (1 : Int32)) + (1 : Int32)) + (1 : Int32))), .val (.int (own_s7 (own_s7 u1)))] [(.int ((((own_s7 (own_s7 u1)) &&& (127 : Int32)) ||| (128 : Int32)).toInt8.toInt32)), (.int ((u0 + (1 : Int32)) + (1 : Int32))), (.ref t_)])) rfl rfl (hb hby own_d1_28)
  have N25 := Fr.snoc X25 N23 ge_t_
  have SZ25 : n0 ≤ h25.size := by rw [W25.size]; exact SZ23
  have K25 := K23.wr W25 (Or.inl (List.mem_of_getElem? (i := 0) rfl))
  refine own_by st25 ?_
  show own_Go p e below T25 (mkF m 29 #[.val (.ref t_), .val (.int u0), .val (.int u1), .val (.int (((u0 + (1 : Int32)) + (1 : Int32)) + (1 : Int32))), .val (.int (own_s7 (own_s7 u1)))] []) _
  have f26 : own_Av Z h25 t_ .byte 13 (own_upd (own_upd (own_upd f ps (.int (own_mid u1))) (ps + 1) (.int (own_mid (own_s7 u1)))) ((ps + 1) + 1) (.int (own_mid (own_s7 (own_s7 u1))))) := fa25
  refine own_s_iload X25.here hx (hb hby own_d1_29) rfl ?_
  refine own_s_bipush X25.here hx (7 : Int32) (hb hby own_d1_31) rfl ?_
  refine own_s_iushr X25.here hx (hb hby own_d1_33) ?_
  show own_Go p e below T25 (mkF m 34 #[.val (.ref t_), .val (.int u0), .val (.int u1), .val (.int (((u0 + (1 : Int32)) + (1 : Int32)) + (1 : Int32))), .val (.int (own_s7 (own_s7 u1)))] [(.int (own_s7 (own_s7 (own_s7 u1))))]) _
  refine own_s_istore X25.here hx #[.val (.ref t_), .val (.int u0), .val (.int u1), .val (.int (((u0 + (1 : Int32)) + (1 : Int32)) + (1 : Int32))), .val (.int (own_s7 (own_s7 (own_s7 u1))))] (hb hby own_d1_34) rfl ?_
  show own_Go p e below T25 (mkF m 36 #[.val (.ref t_), .val (.int u0), .val (.int u1), .val (.int (((u0 + (1 : Int32)) + (1 : Int32)) + (1 : Int32))), .val (.int (own_s7 (own_s7 (own_s7 u1))))] []) _
  refine own_s_goto X25.here hx 5 (hb hby own_d1_36) (by decide) (by decide) ?_
  refine own_s_iload X25.here hx (hb hby own_d1_5) rfl ?_
  refine own_s_bipush X25.here hx (-128 : Int32) (hb hby own_d1_7) rfl ?_
  refine own_s_iand X25.here hx (hb hby own_d1_9) ?_
  refine own_s_ifNo X25.here hx (hb hby own_d1_10) (Jvm.Free.XT.i0_eq_f hj3) ?_
  refine own_s_aloadN X25.here hx (hb hby own_d1_13) rfl rfl ?_
  refine own_s_iloadN X25.here hx (hb hby own_d1_14) rfl ?_
  refine own_by (fun tq_ kq_ => XS.iinc X25.here hx rfl (hb hby own_d1_15) rfl (l' := #[.val (.ref t_), .val (.int u0), .val (.int u1), .val (.int ((((u0 + (1 : Int32)) + (1 : Int32)) + (1 : Int32)) + (1 : Int32))), .val (.int (own_s7 (own_s7 (own_s7 u1))))]) rfl kq_) ?_
  show own_Go p e below T25 (mkF m 18 #[.val (.ref t_), .val (.int u0), .val (.int u1), .val (.int ((((u0 + (1 : Int32)) + (1 : Int32)) + (1 : Int32)) + (1 : Int32))), .val (.int (own_s7 (own_s7 (own_s7 u1))))] [(.int (((u0 + (1 : Int32)) + (1 : Int32)) + (1 : Int32))), (.ref t_)]) _
  refine own_s_iload X25.here hx (hb hby own_d1_18) rfl ?_
  refine own_s_bipush X25.here hx (127 : Int32) (hb hby own_d1_20) rfl ?_
  refine own_s_iand X25.here hx (hb hby own_d1_22) ?_
  refine own_s_sipush X25.here hx (128 : Int32) (hb hby own_d1_23) rfl ?_
  refine own_s_ior X25.here hx (hb hby own_d1_26) ?_
  refine own_s_i2b X25.here hx (hb hby own_d1_27) ?_
  obtain ⟨T27, h27, X27, e27, W27, fa27, st27⟩ := own_stB X25 hx hZ e25 f26 (k := (((ps + 1) + 1) + 1)) (own_succ (own_succ (own_succ hp (by omega)) (by omega)) (by omega)) (by omega) (g := (mkF m 28 #[.val (.ref t_), .val (.int u0), .val (.int u1), .val (.int ((((u0 + (1 : Int32)) + (1 : Int32)) + (1 : Int32)) + (1 : Int32))), .val (.int (own_s7 (own_s7 (own_s7 u1))))] [(.int ((((own_s7 (own_s7 (own_s7 u1))) &&& (127 : Int32)) ||| (128 : Int32)).toInt8.toInt32)), (.int (((u0 + (1 : Int32)) + (1 : Int32)) + (1 : Int32))), (.ref t_)])) rfl rfl (hb hby own_d1_28)
  have N27 := Fr.snoc X27 N25 ge_t_
  have SZ27 : n0 ≤ h27.size := by rw [W27.size]; exact SZ25
  have K27 := K25.wr W27 (Or.inl (List.mem_of_getElem? (i := 0) rfl))
  refine own_by st27 ?_
  show own_Go p e below T27 (mkF m 29 #[.val (.ref t_), .val (.int u0), .val (.int u1), .val (.int ((((u0 + (1 : Int32)) + (1 : Int32)) + (1 : Int32)) + (1 : Int32))), .val (.int (own_s7 (own_s7 (own_s7 u1))))] []) _
  have f28 : own_Av Z h27 t_ .byte 13 (own_upd (own_upd (own_upd (own_upd f ps (.int (own_mid u1))) (ps + 1) (.int (own_mid (own_s7 u1)))) ((ps + 1) + 1) (.int (own_mid (own_s7 (own_s7 u1))))) (((ps + 1) + 1) + 1) (.int (own_mid (own_s7 (own_s7 (own_s7 u1)))))) := fa27
  refine own_s_iload X27.here hx (hb hby own_d1_29) rfl ?_
  refine own_s_bipush X27.here hx (7 : Int32) (hb hby own_d1_31) rfl ?_
  refine own_s_iushr X27.here hx (hb hby own_d1_33) ?_
  show own_Go p e below T27 (mkF m 34 #[.val (.ref t_), .val (.int u0), .val (.int u1), .val (.int ((((u0 + (1 : Int32)) + (1 : Int32)) + (1 : Int32)) + (1 : Int32))), .val (.int (own_s7 (own_s7 (own_s7 u1))))] [(.int (own_s7 (own_s7 (own_s7 (own_s7 u1)))))]) _
  refine own_s_istore X27.here hx #[.val (.ref t_), .val (.int u0), .val (.int u1), .val (.int ((((u0 + (1 : Int32)) + (1 : Int32)) + (1 : Int32)) + (1 : Int32))), .val (.int (own_s7 (own_s7 (own_s7 (own_s7 u1)))))] (hb hby own_d1_34) rfl ?_
  show own_Go p e below T27 (mkF m 36 #[.val (.ref t_), .val (.int u0), .val (.int u1), .val (.int ((((u0 + (1 : Int32)) + (1 : Int32)) + (1 : Int32)) + (1 : Int32))), .val (.int (own_s7 (own_s7 (own_s7 (own_s7 u1)))))] []) _
  refine own_s_goto X27.here hx 5 (hb hby own_d1_36) (by decide) (by decide) ?_
  refine own_s_iload X27.here hx (hb hby own_d1_5) rfl ?_
  refine own_s_bipush X27.here hx (-128 : Int32) (hb hby own_d1_7) rfl ?_
  refine own_s_iand X27.here hx (hb hby own_d1_9) ?_
  show own_Go p e below T27 (mkF m 10 #[.val (.ref t_), .val (.int u0), .val (.int u1), .val (.int ((((u0 + (1 : Int32)) + (1 : Int32)) + (1 : Int32)) + (1 : Int32))), .val (.int (own_s7 (own_s7 (own_s7 (own_s7 u1)))))] [(.int ((own_s7 (own_s7 (own_s7 (own_s7 u1)))) &&& (-128 : Int32)))]) _
  refine own_s_ifYes X27.here hx 39 (hb hby own_d1_10) (Jvm.Free.XT.i0_eq_t hl) (by decide) (by decide) ?_
  refine own_s_aloadN X27.here hx (hb hby own_d1_39) rfl rfl ?_
  refine own_s_iloadN X27.here hx (hb hby own_d1_40) rfl ?_
  refine own_by (fun tq_ kq_ => XS.iinc X27.here hx rfl (hb hby own_d1_41) rfl (l' := #[.val (.ref t_), .val (.int u0), .val (.int u1), .val (.int (((((u0 + (1 : Int32)) + (1 : Int32)) + (1 : Int32)) + (1 : Int32)) + (1 : Int32))), .val (.int (own_s7 (own_s7 (own_s7 (own_s7 u1)))))]) rfl kq_) ?_
  show own_Go p e below T27 (mkF m 44 #[.val (.ref t_), .val (.int u0), .val (.int u1), .val (.int (((((u0 + (1 : Int32)) + (1 : Int32)) + (1 : Int32)) + (1 : Int32)) + (1 : Int32))), .val (.int (own_s7 (own_s7 (own_s7 (own_s7 u1)))))] [(.int ((((u0 + (1 : Int32)) + (1 : Int32)) + (1 : Int32)) + (1 : Int32))), (.ref t_)]) _
  refine own_s_iload X27.here hx (hb hby own_d1_44) rfl ?_
  refine own_s_i2b X27.here hx (hb hby own_d1_46) ?_
  obtain ⟨T29, h29, X29, e29, W29, fa29, st29⟩ := own_stB X27 hx hZ e27 f28 (k := ((((ps + 1) + 1) + 1) + 1)) (own_succ (own_succ (own_succ (own_succ hp (by omega)) (by omega)) (by omega)) (by omega)) (by omega) (g := (mkF m 47 #[.val (.ref t_), .val (.int u0), .val (.int u1), .val (.int (((((u0 + (1 : Int32)) + (1 : Int32)) + (1 : Int32)) + (1 : Int32)) + (1 : Int32))), .val (.int (own_s7 (own_s7 (own_s7 (own_s7 u1)))))] [(.int ((own_s7 (own_s7 (own_s7 (own_s7 u1)))).toInt8.toInt32)), (.int ((((u0 + (1 : Int32)) + (1 : Int32)) + (1 : Int32)) + (1 : Int32))), (.ref t_)])) rfl rfl (hb hby own_d1_47)
  have N29 := Fr.snoc X29 N27 ge_t_
  have SZ29 : n0 ≤ h29.size := by rw [W29.size]; exact SZ27
  have K29 := K27.wr W29 (Or.inl (List.mem_of_getElem? (i := 0) rfl))
  refine own_by st29 ?_
  show own_Go p e below T29 (mkF m 48 #[.val (.ref t_), .val (.int u0), .val (.int u1), .val (.int (((((u0 + (1 : Int32)) + (1 : Int32)) + (1 : Int32)) + (1 : Int32)) + (1 : Int32))), .val (.int (own_s7 (own_s7 (own_s7 (own_s7 u1)))))] []) _
  have f30 : own_Av Z h29 t_ .byte 13 (own_upd (own_upd (own_upd (own_upd (own_upd f ps (.int (own_mid u1))) (ps + 1) (.int (own_mid (own_s7 u1)))) ((ps + 1) + 1) (.int (own_mid (own_s7 (own_s7 u1))))) (((ps + 1) + 1) + 1) (.int (own_mid (own_s7 (own_s7 (own_s7 u1)))))) ((((ps + 1) + 1) + 1) + 1) (.int (own_by8 (own_s7 (own_s7 (own_s7 (own_s7 u1))))))) := fa29
  refine own_s_iloadN X29.here hx (hb hby own_d1_48) rfl ?_
  refine own_retI X29 hx hret hlk (hb hby own_d1_49) (by decide) (by decide) ?_
  rw [e29]
  exact ⟨rfl, N29, K29, f30⟩
theorem own_atd {i p n : Int32} {ii ps nn : Nat} (hi : own_At i ii) (hp : own_At p ps) (hn : own_At n nn) (h1 : ii < 13) (h2 : ps ≤ 7) (h3 : nn ≤ 5) : ((i - p) < 0 ↔ ii < ps) ∧ (¬ (i - p) < 0 → ((i - p) < n ↔ ii - ps < nn) ∧ own_At (i - p) (ii - ps)) := by
  have a1 := hi.1; have a2 := hi.2; have b1 := hp.1; have b2 := hp.2; have c1 := hn.1; have c2 := hn.2
  simp only [Int32.lt_iff_toInt_lt, Int32.toNatClampNeg, show (0 : Int32).toInt = 0 from by decide] at a1 a2 b1 b2 c1 c2
  have e : (i - p).toInt = i.toInt - p.toInt := Jvm.Kit.i32_sub (by omega) (by omega)
  simp only [own_At, Int32.lt_iff_toInt_lt, Int32.toNatClampNeg, show (0 : Int32).toInt = 0 from by decide, e]
  omega
theorem own_d2_0 : decode method_3_code 0 = .ok (.iload_n 1, 1) := by decide +kernel
theorem own_d2_1 : decode method_3_code 1 = .ok (.iload_n 2, 1) := by decide +kernel
theorem own_d2_2 : decode method_3_code 2 = .ok (.isub, 1) := by decide +kernel
theorem own_d2_3 : decode method_3_code 3 = .ok (.istore 6, 2) := by decide +kernel
theorem own_d2_5 : decode method_3_code 5 = .ok (.iload 6, 2) := by decide +kernel
theorem own_d2_7 : decode method_3_code 7 = .ok (.ifCond .lt 17, 3) := by decide +kernel
theorem own_d2_10 : decode method_3_code 10 = .ok (.iload 6, 2) := by decide +kernel
theorem own_d2_12 : decode method_3_code 12 = .ok (.iload_n 3, 1) := by decide +kernel
theorem own_d2_13 : decode method_3_code 13 = .ok (.if_icmp .ge 11, 3) := by decide +kernel
theorem own_d2_16 : decode method_3_code 16 = .ok (.aload 4, 2) := by decide +kernel
theorem own_d2_18 : decode method_3_code 18 = .ok (.iload 6, 2) := by decide +kernel
theorem own_d2_20 : decode method_3_code 20 = .ok (.baload, 1) := by decide +kernel
theorem own_d2_21 : decode method_3_code 21 = .ok (.goto 5, 3) := by decide +kernel
theorem own_d2_24 : decode method_3_code 24 = .ok (.iload 5, 2) := by decide +kernel
theorem own_d2_26 : decode method_3_code 26 = .ok (.istore 7, 2) := by decide +kernel
theorem own_d2_28 : decode method_3_code 28 = .ok (.aload_n 0, 1) := by decide +kernel
theorem own_d2_29 : decode method_3_code 29 = .ok (.iload_n 1, 1) := by decide +kernel
theorem own_d2_30 : decode method_3_code 30 = .ok (.baload, 1) := by decide +kernel
theorem own_d2_31 : decode method_3_code 31 = .ok (.iload 7, 2) := by decide +kernel
theorem own_d2_33 : decode method_3_code 33 = .ok (.if_icmp .ne 7, 3) := by decide +kernel
theorem own_d2_36 : decode method_3_code 36 = .ok (.iconst 1, 1) := by decide +kernel
theorem own_d2_37 : decode method_3_code 37 = .ok (.goto 4, 3) := by decide +kernel
theorem own_d2_40 : decode method_3_code 40 = .ok (.iconst 0, 1) := by decide +kernel
theorem own_d2_41 : decode method_3_code 41 = .ok (.ireturn, 1) := by decide +kernel
theorem own_pn_ByteWriterPutVarintPinLaw : plainName "com/example/fold_time/foldtime/model/ByteWriterPutVarintPinLaw" = true := by first | (simp [plainName, overriddenIn]; done) | decide +kernel
theorem own_ef2 (m : MethodId) (t_ : Addr) (i_ : Int32) (p_ : Int32) (n_ : Int32) (e_ : Addr) (b_ : Int32) : entryFrame m #[(.ref t_), (.int i_), (.int p_), (.int n_), (.ref e_), (.int b_)] 8 = mkF m 0 #[.val (.ref t_), .val (.int i_), .val (.int p_), .val (.int n_), .val (.ref e_), .val (.int b_), .unset, .unset] [] := by first | (simp [entryFrame, mkF, argsToLocals, Value.category]; done) | rfl
def own_q_own_r2 (Z : State) (t_ : Addr) (i_ : Int32) (p_ : Int32) (n_ : Int32) (e_ : Addr) (b_ : Int32) (ii ps nn : Nat) (f : Nat → Value) (ev : Nat → Int32) (h0 : Heap) (n0 : Nat) (v : Option Value) (h : Heap) (L : List Loc) : Prop := v = some (.int 1) ∧ Fr n0 L ∧ h = h0
set_option maxRecDepth 65536 in
set_option maxHeartbeats 40000000 in
theorem own_r2 (l : Launch) (Z : State) (a0 : Array Value) (hw : ∀ d ∈ tables_1, d.before a0 Z = true) (ws : List Jvm.Cond) (t_ : Addr) (i_ : Int32) (p_ : Int32) (n_ : Int32) (e_ : Addr) (b_ : Int32) (ii ps nn : Nat) (f : Nat → Value) (ev : Nat → Int32) (h0 : Heap) (n0 : Nat) (Z0 : n0 ≤ h0.size) (hi : own_At i_ ii) (hp : own_At p_ ps) (hn : own_At n_ nn) (h1 : ii < 13) (h2 : ps ≤ 7) (h3 : nn ≤ 5) (hT : f ii = .int (own_tf b_ ps nn ev ii)) (A_t_ : own_Av Z h0 t_ .byte 13 f) (A_e_ : own_Av Z h0 e_ .byte 5 (fun i => .int (ev i))) :
    MetFree l (⟨"com/example/fold_time/foldtime/model/ByteWriterPutVarintPinLaw", "at", "([BIII[BB)Z"⟩ : MethodName) (head1 (Jvm.Cond.code (⟨"com/example/fold_time/foldtime/model/ByteWriterPutVarintPinLaw", "at", "([BIII[BB)Z"⟩ : MethodName) method_3_code 8 (some .boolean) :: ws) ({ frames := 0, cells := 0, slots := 0, locals := 0 } : Room)) (fun aq Uq => aq = #[(.ref t_), (.int i_), (.int p_), (.int n_), (.ref e_), (.int b_)] ∧ Z.Warmed39 Uq.vm ∧ Uq.heap = h0) (fun _ _ _ _ _ => True) (fun _ Uq oq Uq' => ∃ vq Lq, oq = .returned vq ∧ own_q_own_r2 Z t_ i_ p_ n_ e_ b_ ii ps nn f ev h0 n0 vq Uq'.heap Lq ∧ FrameEnd Uq oq Uq' Lq ({ frames := 0, cells := 0, slots := 0, locals := 0 } : Room).cells ({ frames := 0, cells := 0, slots := 0, locals := 0 } : Room).slots) := by
  refine MetFree.of_bodySF (plainFor_of_name own_pn_ByteWriterPutVarintPinLaw) hisR ?_
  intro p e s m args below meth c T0 Bd hml0 hP hK
  obtain ⟨rfl, hZ, hh⟩ := hP
  have hx := Bd.exec
  have hby := Bd.bytes
  have hml : c.maxLocals = 8 := hml0
  have hown : s.vm.findClass "com/example/fold_time/foldtime/model/ByteWriterPutVarintPinLaw" = some m.cls := findClass_of_methodNamed Bd.named
  have hnm := (name_of_methodNamed Bd.named Bd.method).1
  have hret : meth.sig.returnType = (some .boolean) := Bd.returns
  have hlk : meth.locks = false := BodyLoose.notSynchronized Bd
  have X0 : Stand p l e ({ frames := 0, cells := 0, slots := 0, locals := 0 } : Room) s m #[(.ref t_), (.int i_), (.int p_), (.int n_), (.ref e_), (.int b_)] below meth c T0 [] 0 0 := Stand.of_body Bd
  have e0 : T0.heap = h0 := by rw [← hh, Bd.state]; rfl
  have N0 := Fr.nil n0
  refine own_start (own_ef2 m t_ i_ p_ n_ e_ b_) (Q := fun (v : Option Value) (h : Heap) (L : List Loc) => v = some (.int 1) ∧ Fr n0 L ∧ h = h0) (k := 0) (j := 0) ?_
  show own_Go p e below T0 (mkF m 0 #[.val (.ref t_), .val (.int i_), .val (.int p_), .val (.int n_), .val (.ref e_), .val (.int b_), .unset, .unset] []) _
  refine own_s_iloadN X0.here hx (hb hby own_d2_0) rfl ?_
  refine own_s_iloadN X0.here hx (hb hby own_d2_1) rfl ?_
  refine own_s_isub X0.here hx (hb hby own_d2_2) ?_
  refine own_s_istore X0.here hx #[.val (.ref t_), .val (.int i_), .val (.int p_), .val (.int n_), .val (.ref e_), .val (.int b_), .val (.int (i_ - p_)), .unset] (hb hby own_d2_3) rfl ?_
  refine own_s_iload X0.here hx (hb hby own_d2_5) rfl ?_
  by_cases hc7 : (i_ - p_) < 0
  ·
    show own_Go p e below T0 (mkF m 7 #[.val (.ref t_), .val (.int i_), .val (.int p_), .val (.int n_), .val (.ref e_), .val (.int b_), .val (.int (i_ - p_)), .unset] [(.int (i_ - p_))]) _
    refine own_s_ifYes X0.here hx 24 (hb hby own_d2_7) (Jvm.Free.XT.i0_lt_t hc7) (by decide) (by decide) ?_
    refine own_s_iload X0.here hx (hb hby own_d2_24) rfl ?_
    refine own_s_istore X0.here hx #[.val (.ref t_), .val (.int i_), .val (.int p_), .val (.int n_), .val (.ref e_), .val (.int b_), .val (.int (i_ - p_)), .val (.int b_)] (hb hby own_d2_26) rfl ?_
    refine own_s_aloadN X0.here hx (hb hby own_d2_28) rfl rfl ?_
    refine own_s_iloadN X0.here hx (hb hby own_d2_29) rfl ?_
    refine own_by (fun tq_ kq_ => own_ldB X0 hx hZ e0 A_t_ (k := ii) (v := (.int (own_tf b_ ps nn ev ii))) hi (by omega) hT (g := (mkF m 30 #[.val (.ref t_), .val (.int i_), .val (.int p_), .val (.int n_), .val (.ref e_), .val (.int b_), .val (.int (i_ - p_)), .val (.int b_)] [(.int i_), (.ref t_)])) rfl rfl (hb hby own_d2_30) tq_ kq_) ?_
    show own_Go p e below T0 (mkF m 31 #[.val (.ref t_), .val (.int i_), .val (.int p_), .val (.int n_), .val (.ref e_), .val (.int b_), .val (.int (i_ - p_)), .val (.int b_)] [(.int (own_tf b_ ps nn ev ii))]) _
    refine own_s_iload X0.here hx (hb hby own_d2_31) rfl ?_
    have own_e : (own_tf b_ ps nn ev ii) = b_ := by unfold own_tf; rw [if_neg (by have := (own_atd hi hp hn h1 h2 h3).1.mp hc7; omega)]
    refine own_s_icmpNo X0.here hx (hb hby own_d2_33) (Jvm.Free.XT.ii_ne_f own_e) ?_
    refine own_s_iconst X0.here hx (1 : Int32) (hb hby own_d2_36) rfl ?_
    show own_Go p e below T0 (mkF m 37 #[.val (.ref t_), .val (.int i_), .val (.int p_), .val (.int n_), .val (.ref e_), .val (.int b_), .val (.int (i_ - p_)), .val (.int b_)] [(.int (1 : Int32))]) _
    refine own_s_goto X0.here hx 41 (hb hby own_d2_37) (by decide) (by decide) ?_
    refine own_retZ X0 hx hret hlk (hb hby own_d2_41) rfl (by decide) (by decide) ?_
    exact ⟨rfl, N0, e0⟩
  ·
    refine own_s_ifNo X0.here hx (hb hby own_d2_7) (Jvm.Free.XT.i0_lt_f hc7) ?_
    refine own_s_iload X0.here hx (hb hby own_d2_10) rfl ?_
    refine own_s_iloadN X0.here hx (hb hby own_d2_12) rfl ?_
    by_cases hc13 : (i_ - p_) < n_
    ·
      refine own_s_icmpNo X0.here hx (hb hby own_d2_13) (Jvm.Free.XT.ii_ge_f hc13) ?_
      have own_q := ((own_atd hi hp hn h1 h2 h3).2 hc7)
      have own_ai := own_q.2
      have own_al : ii - ps < 5 := by have := own_q.1.mp hc13; omega
      refine own_s_aload X0.here hx (hb hby own_d2_16) rfl rfl ?_
      refine own_s_iload X0.here hx (hb hby own_d2_18) rfl ?_
      refine own_by (fun tq_ kq_ => own_ldB X0 hx hZ e0 A_e_ (k := (ii - ps)) (v := (.int (ev (ii - ps)))) own_ai own_al rfl (g := (mkF m 20 #[.val (.ref t_), .val (.int i_), .val (.int p_), .val (.int n_), .val (.ref e_), .val (.int b_), .val (.int (i_ - p_)), .unset] [(.int (i_ - p_)), (.ref e_)])) rfl rfl (hb hby own_d2_20) tq_ kq_) ?_
      show own_Go p e below T0 (mkF m 21 #[.val (.ref t_), .val (.int i_), .val (.int p_), .val (.int n_), .val (.ref e_), .val (.int b_), .val (.int (i_ - p_)), .unset] [(.int (ev (ii - ps)))]) _
      refine own_s_goto X0.here hx 26 (hb hby own_d2_21) (by decide) (by decide) ?_
      refine own_s_istore X0.here hx #[.val (.ref t_), .val (.int i_), .val (.int p_), .val (.int n_), .val (.ref e_), .val (.int b_), .val (.int (i_ - p_)), .val (.int (ev (ii - ps)))] (hb hby own_d2_26) rfl ?_
      refine own_s_aloadN X0.here hx (hb hby own_d2_28) rfl rfl ?_
      refine own_s_iloadN X0.here hx (hb hby own_d2_29) rfl ?_
      refine own_by (fun tq_ kq_ => own_ldB X0 hx hZ e0 A_t_ (k := ii) (v := (.int (own_tf b_ ps nn ev ii))) hi (by omega) hT (g := (mkF m 30 #[.val (.ref t_), .val (.int i_), .val (.int p_), .val (.int n_), .val (.ref e_), .val (.int b_), .val (.int (i_ - p_)), .val (.int (ev (ii - ps)))] [(.int i_), (.ref t_)])) rfl rfl (hb hby own_d2_30) tq_ kq_) ?_
      show own_Go p e below T0 (mkF m 31 #[.val (.ref t_), .val (.int i_), .val (.int p_), .val (.int n_), .val (.ref e_), .val (.int b_), .val (.int (i_ - p_)), .val (.int (ev (ii - ps)))] [(.int (own_tf b_ ps nn ev ii))]) _
      refine own_s_iload X0.here hx (hb hby own_d2_31) rfl ?_
      have own_e : (own_tf b_ ps nn ev ii) = (ev (ii - ps)) := by unfold own_tf; rw [if_pos (by have := own_q.1.mp hc13; have := (own_atd hi hp hn h1 h2 h3).1; have : ¬ ii < ps := fun q => hc7 (this.mpr q); omega)]
      refine own_s_icmpNo X0.here hx (hb hby own_d2_33) (Jvm.Free.XT.ii_ne_f own_e) ?_
      refine own_s_iconst X0.here hx (1 : Int32) (hb hby own_d2_36) rfl ?_
      show own_Go p e below T0 (mkF m 37 #[.val (.ref t_), .val (.int i_), .val (.int p_), .val (.int n_), .val (.ref e_), .val (.int b_), .val (.int (i_ - p_)), .val (.int (ev (ii - ps)))] [(.int (1 : Int32))]) _
      refine own_s_goto X0.here hx 41 (hb hby own_d2_37) (by decide) (by decide) ?_
      refine own_retZ X0 hx hret hlk (hb hby own_d2_41) rfl (by decide) (by decide) ?_
      exact ⟨rfl, N0, e0⟩
    ·
      show own_Go p e below T0 (mkF m 13 #[.val (.ref t_), .val (.int i_), .val (.int p_), .val (.int n_), .val (.ref e_), .val (.int b_), .val (.int (i_ - p_)), .unset] [(.int n_), (.int (i_ - p_))]) _
      refine own_s_icmpYes X0.here hx 24 (hb hby own_d2_13) (Jvm.Free.XT.ii_ge_t hc13) (by decide) (by decide) ?_
      refine own_s_iload X0.here hx (hb hby own_d2_24) rfl ?_
      refine own_s_istore X0.here hx #[.val (.ref t_), .val (.int i_), .val (.int p_), .val (.int n_), .val (.ref e_), .val (.int b_), .val (.int (i_ - p_)), .val (.int b_)] (hb hby own_d2_26) rfl ?_
      refine own_s_aloadN X0.here hx (hb hby own_d2_28) rfl rfl ?_
      refine own_s_iloadN X0.here hx (hb hby own_d2_29) rfl ?_
      refine own_by (fun tq_ kq_ => own_ldB X0 hx hZ e0 A_t_ (k := ii) (v := (.int (own_tf b_ ps nn ev ii))) hi (by omega) hT (g := (mkF m 30 #[.val (.ref t_), .val (.int i_), .val (.int p_), .val (.int n_), .val (.ref e_), .val (.int b_), .val (.int (i_ - p_)), .val (.int b_)] [(.int i_), (.ref t_)])) rfl rfl (hb hby own_d2_30) tq_ kq_) ?_
      show own_Go p e below T0 (mkF m 31 #[.val (.ref t_), .val (.int i_), .val (.int p_), .val (.int n_), .val (.ref e_), .val (.int b_), .val (.int (i_ - p_)), .val (.int b_)] [(.int (own_tf b_ ps nn ev ii))]) _
      refine own_s_iload X0.here hx (hb hby own_d2_31) rfl ?_
      have own_e : (own_tf b_ ps nn ev ii) = b_ := by unfold own_tf; rw [if_neg (by have := (own_atd hi hp hn h1 h2 h3).2 hc7; have : ¬ ii - ps < nn := fun q => hc13 (this.1.mpr q); omega)]
      refine own_s_icmpNo X0.here hx (hb hby own_d2_33) (Jvm.Free.XT.ii_ne_f own_e) ?_
      refine own_s_iconst X0.here hx (1 : Int32) (hb hby own_d2_36) rfl ?_
      show own_Go p e below T0 (mkF m 37 #[.val (.ref t_), .val (.int i_), .val (.int p_), .val (.int n_), .val (.ref e_), .val (.int b_), .val (.int (i_ - p_)), .val (.int b_)] [(.int (1 : Int32))]) _
      refine own_s_goto X0.here hx 41 (hb hby own_d2_37) (by decide) (by decide) ?_
      refine own_retZ X0 hx hret hlk (hb hby own_d2_41) rfl (by decide) (by decide) ?_
      exact ⟨rfl, N0, e0⟩
theorem own_pd_1 : parseMethodDescriptor "([BIII[BB)Z" = some ⟨[(.array .byte), .int, .int, .int, (.array .byte), .byte], some .boolean⟩ := by decide +kernel
set_option maxRecDepth 65536 in
set_option maxHeartbeats 40000000 in
theorem own_p285 {p : Program} {l : Launch} {e : Env} {s : State} {m : MethodId} {args : Array Value} {below : List Frame} {meth : Method} {c : Code} {Z : State} {a0 : Array Value} {n0 : Nat} (hx : p.tables.exec = Jvm.exec) (hZ : Z.Warmed39 s.vm) (hw : ∀ d ∈ tables_1, d.before a0 Z = true) (hby : c.code = code) (hml : c.maxLocals = 11) (hown : s.vm.findClass "com/example/fold_time/foldtime/model/ByteWriterPutVarintPinLaw" = some m.cls) (hnm : meth.name = "law") (hret : meth.sig.returnType = (some .boolean)) (hlk : meth.locks = false) (v0 s0 p0 f0 vl po bb n_ rt : Int32) (t_ e_ : Addr) (ps nn : Nat) (ev : Nat → Int32) {T0 : State} {locs : List Loc} {h0 : Heap} (X0 : Stand p l e room_1 s m args below meth c T0 locs 2 18) (e0 : T0.heap = h0) (N0 : Fr n0 locs) (Z0 : n0 ≤ h0.size) (hr : rt = (po + n_)) (hp : own_At po ps) (hn : own_At n_ nn) (h2 : ps ≤ 7) (h3 : nn ≤ 5) (A_t_ : own_Av Z h0 t_ .byte 13 (fun i => .int (own_tf bb ps nn ev i))) (A_e_ : own_Av Z h0 e_ .byte 5 (fun i => .int (ev i))) :
    own_Go p e below T0 (mkF m 285 #[.val (.int v0), .val (.int s0), .val (.int p0), .val (.int f0), .val (.int vl), .val (.int po), .val (.int bb), .val (.ref t_), .val (.int n_), .val (.ref e_), .unset] [(.int rt)]) (own_Fin s (fun (v : Option Value) (h : Heap) (L : List Loc) => v = some (.int 1) ∧ Fr n0 L) 16 128) := by
  show own_Go p e below T0 (mkF m 285 #[.val (.int v0), .val (.int s0), .val (.int p0), .val (.int f0), .val (.int vl), .val (.int po), .val (.int bb), .val (.ref t_), .val (.int n_), .val (.ref e_), .unset] [(.int rt)]) _
  refine own_s_istore X0.here hx #[.val (.int v0), .val (.int s0), .val (.int p0), .val (.int f0), .val (.int vl), .val (.int po), .val (.int bb), .val (.ref t_), .val (.int n_), .val (.ref e_), .val (.int rt)] (hb hby at_285) rfl ?_
  refine own_s_iload X0.here hx (hb hby at_287) rfl ?_
  refine own_s_iload X0.here hx (hb hby at_289) rfl ?_
  refine own_s_iload X0.here hx (hb hby at_291) rfl ?_
  refine own_s_iadd X0.here hx (hb hby at_293) ?_
  refine own_s_icmpNo X0.here hx (hb hby at_294) (Jvm.Free.XT.ii_ne_f hr) ?_
  refine own_s_aload X0.here hx (hb hby at_297) rfl rfl ?_
  refine own_s_iconst X0.here hx (0 : Int32) (hb hby at_299) rfl ?_
  refine own_s_iload X0.here hx (hb hby at_300) rfl ?_
  refine own_s_iload X0.here hx (hb hby at_302) rfl ?_
  refine own_s_aload X0.here hx (hb hby at_304) rfl rfl ?_
  refine own_s_iload X0.here hx (hb hby at_306) rfl ?_
  show own_Go p e below T0 (mkF m 308 #[.val (.int v0), .val (.int s0), .val (.int p0), .val (.int f0), .val (.int vl), .val (.int po), .val (.int bb), .val (.ref t_), .val (.int n_), .val (.ref e_), .val (.int rt)] [(.int bb), (.ref e_), (.int n_), (.int po), (.int (0 : Int32)), (.ref t_)]) _
  obtain ⟨_, _, ⟨T31, L31, k31, n31⟩, -, X31, ⟨Lc31, hQ31, l31, y31, z31⟩, st31⟩ := Jvm.LawKit.callS X0 hx (y := (⟨"com/example/fold_time/foldtime/model/ByteWriterPutVarintPinLaw", "at", "([BIII[BB)Z"⟩ : MethodName)) hown (mvT hZ (hw _ (List.mem_of_getElem? (i := 6) rfl))) (mvT hZ (hw _ (List.mem_of_getElem? (i := 7) rfl))) (mvT hZ (hw _ (List.mem_of_getElem? (i := 8) rfl))) (mvT hZ (hw _ (List.mem_of_getElem? (i := 9) rfl))) (by decide) (backOf (W := 0) (own_r2 l Z a0 hw [] t_ (0 : Int32) po n_ e_ bb 0 ps nn (fun i => .int (own_tf bb ps nn ev i)) ev h0 n0 Z0 (by decide) hp hn (by decide) h2 h3 rfl A_t_ A_e_) hZ (hw _ (List.mem_of_getElem? (i := 9) rfl)) (hw _ (List.mem_of_getElem? (i := 8) rfl)) (by decide) (by decide)) (g := (mkF m 308 #[.val (.int v0), .val (.int s0), .val (.int p0), .val (.int f0), .val (.int vl), .val (.int po), .val (.int bb), .val (.ref t_), .val (.int n_), .val (.ref e_), .val (.int rt)] [(.int bb), (.ref e_), (.int n_), (.int po), (.int (0 : Int32)), (.ref t_)])) rfl (by rw [hml]; rfl) (argsL := [(.ref t_), (.int (0 : Int32)), (.int po), (.int n_), (.ref e_), (.int bb)]) (rest := []) (lenOf own_pd_1 rfl) rfl (by show 2 * 0 + _ ≤ _; exact Nat.le_of_eq rfl) (hb hby at_308) (fun _ _ => ⟨rfl, e0, (by decide : 2 + 0 ≤ _), (by decide : 18 + 0 ≤ _)⟩)
  dsimp only [Pt.U, Pt.locs, Pt.cells, Pt.slots] at X31 l31 y31 z31 st31 hQ31
  subst l31 y31 z31
  obtain ⟨rfl, N31q, e31⟩ := hQ31
  have N31 := Fr.app N0 N31q
  refine own_by st31 ?_
  show own_Go p e below T31 (mkF m 311 #[.val (.int v0), .val (.int s0), .val (.int p0), .val (.int f0), .val (.int vl), .val (.int po), .val (.int bb), .val (.ref t_), .val (.int n_), .val (.ref e_), .val (.int rt)] [(.int (1 : Int32))]) _
  refine own_s_ifNo X31.here hx (hb hby at_311) (Jvm.Free.XT.i0_eq_f ((by decide))) ?_
  refine own_s_aload X31.here hx (hb hby at_314) rfl rfl ?_
  refine own_s_iconst X31.here hx (1 : Int32) (hb hby at_316) rfl ?_
  refine own_s_iload X31.here hx (hb hby at_317) rfl ?_
  refine own_s_iload X31.here hx (hb hby at_319) rfl ?_
  refine own_s_aload X31.here hx (hb hby at_321) rfl rfl ?_
  refine own_s_iload X31.here hx (hb hby at_323) rfl ?_
  obtain ⟨_, _, ⟨T32, L32, k32, n32⟩, -, X32, ⟨Lc32, hQ32, l32, y32, z32⟩, st32⟩ := Jvm.LawKit.callS X31 hx (y := (⟨"com/example/fold_time/foldtime/model/ByteWriterPutVarintPinLaw", "at", "([BIII[BB)Z"⟩ : MethodName)) hown (mvT hZ (hw _ (List.mem_of_getElem? (i := 6) rfl))) (mvT hZ (hw _ (List.mem_of_getElem? (i := 7) rfl))) (mvT hZ (hw _ (List.mem_of_getElem? (i := 8) rfl))) (mvT hZ (hw _ (List.mem_of_getElem? (i := 9) rfl))) (by decide) (backOf (W := 0) (own_r2 l Z a0 hw [] t_ (1 : Int32) po n_ e_ bb 1 ps nn (fun i => .int (own_tf bb ps nn ev i)) ev h0 n0 Z0 (by decide) hp hn (by decide) h2 h3 rfl A_t_ A_e_) hZ (hw _ (List.mem_of_getElem? (i := 9) rfl)) (hw _ (List.mem_of_getElem? (i := 8) rfl)) (by decide) (by decide)) (g := (mkF m 325 #[.val (.int v0), .val (.int s0), .val (.int p0), .val (.int f0), .val (.int vl), .val (.int po), .val (.int bb), .val (.ref t_), .val (.int n_), .val (.ref e_), .val (.int rt)] [(.int bb), (.ref e_), (.int n_), (.int po), (.int (1 : Int32)), (.ref t_)])) rfl (by rw [hml]; rfl) (argsL := [(.ref t_), (.int (1 : Int32)), (.int po), (.int n_), (.ref e_), (.int bb)]) (rest := []) (lenOf own_pd_1 rfl) rfl (by show 2 * 0 + _ ≤ _; exact Nat.le_of_eq rfl) (hb hby at_325) (fun _ _ => ⟨rfl, e31, (by decide : 2 + 0 ≤ _), (by decide : 18 + 0 ≤ _)⟩)
  dsimp only [Pt.U, Pt.locs, Pt.cells, Pt.slots] at X32 l32 y32 z32 st32 hQ32
  subst l32 y32 z32
  obtain ⟨rfl, N32q, e32⟩ := hQ32
  have N32 := Fr.app N31 N32q
  refine own_by st32 ?_
  show own_Go p e below T32 (mkF m 328 #[.val (.int v0), .val (.int s0), .val (.int p0), .val (.int f0), .val (.int vl), .val (.int po), .val (.int bb), .val (.ref t_), .val (.int n_), .val (.ref e_), .val (.int rt)] [(.int (1 : Int32))]) _
  refine own_s_ifNo X32.here hx (hb hby at_328) (Jvm.Free.XT.i0_eq_f ((by decide))) ?_
  refine own_s_aload X32.here hx (hb hby at_331) rfl rfl ?_
  refine own_s_iconst X32.here hx (2 : Int32) (hb hby at_333) rfl ?_
  refine own_s_iload X32.here hx (hb hby at_334) rfl ?_
  refine own_s_iload X32.here hx (hb hby at_336) rfl ?_
  refine own_s_aload X32.here hx (hb hby at_338) rfl rfl ?_
  refine own_s_iload X32.here hx (hb hby at_340) rfl ?_
  obtain ⟨_, _, ⟨T33, L33, k33, n33⟩, -, X33, ⟨Lc33, hQ33, l33, y33, z33⟩, st33⟩ := Jvm.LawKit.callS X32 hx (y := (⟨"com/example/fold_time/foldtime/model/ByteWriterPutVarintPinLaw", "at", "([BIII[BB)Z"⟩ : MethodName)) hown (mvT hZ (hw _ (List.mem_of_getElem? (i := 6) rfl))) (mvT hZ (hw _ (List.mem_of_getElem? (i := 7) rfl))) (mvT hZ (hw _ (List.mem_of_getElem? (i := 8) rfl))) (mvT hZ (hw _ (List.mem_of_getElem? (i := 9) rfl))) (by decide) (backOf (W := 0) (own_r2 l Z a0 hw [] t_ (2 : Int32) po n_ e_ bb 2 ps nn (fun i => .int (own_tf bb ps nn ev i)) ev h0 n0 Z0 (by decide) hp hn (by decide) h2 h3 rfl A_t_ A_e_) hZ (hw _ (List.mem_of_getElem? (i := 9) rfl)) (hw _ (List.mem_of_getElem? (i := 8) rfl)) (by decide) (by decide)) (g := (mkF m 342 #[.val (.int v0), .val (.int s0), .val (.int p0), .val (.int f0), .val (.int vl), .val (.int po), .val (.int bb), .val (.ref t_), .val (.int n_), .val (.ref e_), .val (.int rt)] [(.int bb), (.ref e_), (.int n_), (.int po), (.int (2 : Int32)), (.ref t_)])) rfl (by rw [hml]; rfl) (argsL := [(.ref t_), (.int (2 : Int32)), (.int po), (.int n_), (.ref e_), (.int bb)]) (rest := []) (lenOf own_pd_1 rfl) rfl (by show 2 * 0 + _ ≤ _; exact Nat.le_of_eq rfl) (hb hby at_342) (fun _ _ => ⟨rfl, e32, (by decide : 2 + 0 ≤ _), (by decide : 18 + 0 ≤ _)⟩)
  dsimp only [Pt.U, Pt.locs, Pt.cells, Pt.slots] at X33 l33 y33 z33 st33 hQ33
  subst l33 y33 z33
  obtain ⟨rfl, N33q, e33⟩ := hQ33
  have N33 := Fr.app N32 N33q
  refine own_by st33 ?_
  show own_Go p e below T33 (mkF m 345 #[.val (.int v0), .val (.int s0), .val (.int p0), .val (.int f0), .val (.int vl), .val (.int po), .val (.int bb), .val (.ref t_), .val (.int n_), .val (.ref e_), .val (.int rt)] [(.int (1 : Int32))]) _
  refine own_s_ifNo X33.here hx (hb hby at_345) (Jvm.Free.XT.i0_eq_f ((by decide))) ?_
  refine own_s_aload X33.here hx (hb hby at_348) rfl rfl ?_
  refine own_s_iconst X33.here hx (3 : Int32) (hb hby at_350) rfl ?_
  refine own_s_iload X33.here hx (hb hby at_351) rfl ?_
  refine own_s_iload X33.here hx (hb hby at_353) rfl ?_
  refine own_s_aload X33.here hx (hb hby at_355) rfl rfl ?_
  refine own_s_iload X33.here hx (hb hby at_357) rfl ?_
  obtain ⟨_, _, ⟨T34, L34, k34, n34⟩, -, X34, ⟨Lc34, hQ34, l34, y34, z34⟩, st34⟩ := Jvm.LawKit.callS X33 hx (y := (⟨"com/example/fold_time/foldtime/model/ByteWriterPutVarintPinLaw", "at", "([BIII[BB)Z"⟩ : MethodName)) hown (mvT hZ (hw _ (List.mem_of_getElem? (i := 6) rfl))) (mvT hZ (hw _ (List.mem_of_getElem? (i := 7) rfl))) (mvT hZ (hw _ (List.mem_of_getElem? (i := 8) rfl))) (mvT hZ (hw _ (List.mem_of_getElem? (i := 9) rfl))) (by decide) (backOf (W := 0) (own_r2 l Z a0 hw [] t_ (3 : Int32) po n_ e_ bb 3 ps nn (fun i => .int (own_tf bb ps nn ev i)) ev h0 n0 Z0 (by decide) hp hn (by decide) h2 h3 rfl A_t_ A_e_) hZ (hw _ (List.mem_of_getElem? (i := 9) rfl)) (hw _ (List.mem_of_getElem? (i := 8) rfl)) (by decide) (by decide)) (g := (mkF m 359 #[.val (.int v0), .val (.int s0), .val (.int p0), .val (.int f0), .val (.int vl), .val (.int po), .val (.int bb), .val (.ref t_), .val (.int n_), .val (.ref e_), .val (.int rt)] [(.int bb), (.ref e_), (.int n_), (.int po), (.int (3 : Int32)), (.ref t_)])) rfl (by rw [hml]; rfl) (argsL := [(.ref t_), (.int (3 : Int32)), (.int po), (.int n_), (.ref e_), (.int bb)]) (rest := []) (lenOf own_pd_1 rfl) rfl (by show 2 * 0 + _ ≤ _; exact Nat.le_of_eq rfl) (hb hby at_359) (fun _ _ => ⟨rfl, e33, (by decide : 2 + 0 ≤ _), (by decide : 18 + 0 ≤ _)⟩)
  dsimp only [Pt.U, Pt.locs, Pt.cells, Pt.slots] at X34 l34 y34 z34 st34 hQ34
  subst l34 y34 z34
  obtain ⟨rfl, N34q, e34⟩ := hQ34
  have N34 := Fr.app N33 N34q
  refine own_by st34 ?_
  show own_Go p e below T34 (mkF m 362 #[.val (.int v0), .val (.int s0), .val (.int p0), .val (.int f0), .val (.int vl), .val (.int po), .val (.int bb), .val (.ref t_), .val (.int n_), .val (.ref e_), .val (.int rt)] [(.int (1 : Int32))]) _
  refine own_s_ifNo X34.here hx (hb hby at_362) (Jvm.Free.XT.i0_eq_f ((by decide))) ?_
  refine own_s_aload X34.here hx (hb hby at_365) rfl rfl ?_
  refine own_s_iconst X34.here hx (4 : Int32) (hb hby at_367) rfl ?_
  refine own_s_iload X34.here hx (hb hby at_368) rfl ?_
  refine own_s_iload X34.here hx (hb hby at_370) rfl ?_
  refine own_s_aload X34.here hx (hb hby at_372) rfl rfl ?_
  refine own_s_iload X34.here hx (hb hby at_374) rfl ?_
  obtain ⟨_, _, ⟨T35, L35, k35, n35⟩, -, X35, ⟨Lc35, hQ35, l35, y35, z35⟩, st35⟩ := Jvm.LawKit.callS X34 hx (y := (⟨"com/example/fold_time/foldtime/model/ByteWriterPutVarintPinLaw", "at", "([BIII[BB)Z"⟩ : MethodName)) hown (mvT hZ (hw _ (List.mem_of_getElem? (i := 6) rfl))) (mvT hZ (hw _ (List.mem_of_getElem? (i := 7) rfl))) (mvT hZ (hw _ (List.mem_of_getElem? (i := 8) rfl))) (mvT hZ (hw _ (List.mem_of_getElem? (i := 9) rfl))) (by decide) (backOf (W := 0) (own_r2 l Z a0 hw [] t_ (4 : Int32) po n_ e_ bb 4 ps nn (fun i => .int (own_tf bb ps nn ev i)) ev h0 n0 Z0 (by decide) hp hn (by decide) h2 h3 rfl A_t_ A_e_) hZ (hw _ (List.mem_of_getElem? (i := 9) rfl)) (hw _ (List.mem_of_getElem? (i := 8) rfl)) (by decide) (by decide)) (g := (mkF m 376 #[.val (.int v0), .val (.int s0), .val (.int p0), .val (.int f0), .val (.int vl), .val (.int po), .val (.int bb), .val (.ref t_), .val (.int n_), .val (.ref e_), .val (.int rt)] [(.int bb), (.ref e_), (.int n_), (.int po), (.int (4 : Int32)), (.ref t_)])) rfl (by rw [hml]; rfl) (argsL := [(.ref t_), (.int (4 : Int32)), (.int po), (.int n_), (.ref e_), (.int bb)]) (rest := []) (lenOf own_pd_1 rfl) rfl (by show 2 * 0 + _ ≤ _; exact Nat.le_of_eq rfl) (hb hby at_376) (fun _ _ => ⟨rfl, e34, (by decide : 2 + 0 ≤ _), (by decide : 18 + 0 ≤ _)⟩)
  dsimp only [Pt.U, Pt.locs, Pt.cells, Pt.slots] at X35 l35 y35 z35 st35 hQ35
  subst l35 y35 z35
  obtain ⟨rfl, N35q, e35⟩ := hQ35
  have N35 := Fr.app N34 N35q
  refine own_by st35 ?_
  show own_Go p e below T35 (mkF m 379 #[.val (.int v0), .val (.int s0), .val (.int p0), .val (.int f0), .val (.int vl), .val (.int po), .val (.int bb), .val (.ref t_), .val (.int n_), .val (.ref e_), .val (.int rt)] [(.int (1 : Int32))]) _
  refine own_s_ifNo X35.here hx (hb hby at_379) (Jvm.Free.XT.i0_eq_f ((by decide))) ?_
  refine own_s_aload X35.here hx (hb hby at_382) rfl rfl ?_
  refine own_s_iconst X35.here hx (5 : Int32) (hb hby at_384) rfl ?_
  refine own_s_iload X35.here hx (hb hby at_385) rfl ?_
  refine own_s_iload X35.here hx (hb hby at_387) rfl ?_
  refine own_s_aload X35.here hx (hb hby at_389) rfl rfl ?_
  refine own_s_iload X35.here hx (hb hby at_391) rfl ?_
  obtain ⟨_, _, ⟨T36, L36, k36, n36⟩, -, X36, ⟨Lc36, hQ36, l36, y36, z36⟩, st36⟩ := Jvm.LawKit.callS X35 hx (y := (⟨"com/example/fold_time/foldtime/model/ByteWriterPutVarintPinLaw", "at", "([BIII[BB)Z"⟩ : MethodName)) hown (mvT hZ (hw _ (List.mem_of_getElem? (i := 6) rfl))) (mvT hZ (hw _ (List.mem_of_getElem? (i := 7) rfl))) (mvT hZ (hw _ (List.mem_of_getElem? (i := 8) rfl))) (mvT hZ (hw _ (List.mem_of_getElem? (i := 9) rfl))) (by decide) (backOf (W := 0) (own_r2 l Z a0 hw [] t_ (5 : Int32) po n_ e_ bb 5 ps nn (fun i => .int (own_tf bb ps nn ev i)) ev h0 n0 Z0 (by decide) hp hn (by decide) h2 h3 rfl A_t_ A_e_) hZ (hw _ (List.mem_of_getElem? (i := 9) rfl)) (hw _ (List.mem_of_getElem? (i := 8) rfl)) (by decide) (by decide)) (g := (mkF m 393 #[.val (.int v0), .val (.int s0), .val (.int p0), .val (.int f0), .val (.int vl), .val (.int po), .val (.int bb), .val (.ref t_), .val (.int n_), .val (.ref e_), .val (.int rt)] [(.int bb), (.ref e_), (.int n_), (.int po), (.int (5 : Int32)), (.ref t_)])) rfl (by rw [hml]; rfl) (argsL := [(.ref t_), (.int (5 : Int32)), (.int po), (.int n_), (.ref e_), (.int bb)]) (rest := []) (lenOf own_pd_1 rfl) rfl (by show 2 * 0 + _ ≤ _; exact Nat.le_of_eq rfl) (hb hby at_393) (fun _ _ => ⟨rfl, e35, (by decide : 2 + 0 ≤ _), (by decide : 18 + 0 ≤ _)⟩)
  dsimp only [Pt.U, Pt.locs, Pt.cells, Pt.slots] at X36 l36 y36 z36 st36 hQ36
  subst l36 y36 z36
  obtain ⟨rfl, N36q, e36⟩ := hQ36
  have N36 := Fr.app N35 N36q
  refine own_by st36 ?_
  show own_Go p e below T36 (mkF m 396 #[.val (.int v0), .val (.int s0), .val (.int p0), .val (.int f0), .val (.int vl), .val (.int po), .val (.int bb), .val (.ref t_), .val (.int n_), .val (.ref e_), .val (.int rt)] [(.int (1 : Int32))]) _
  refine own_s_ifNo X36.here hx (hb hby at_396) (Jvm.Free.XT.i0_eq_f ((by decide))) ?_
  refine own_s_aload X36.here hx (hb hby at_399) rfl rfl ?_
  refine own_s_bipush X36.here hx (6 : Int32) (hb hby at_401) rfl ?_
  refine own_s_iload X36.here hx (hb hby at_403) rfl ?_
  refine own_s_iload X36.here hx (hb hby at_405) rfl ?_
  refine own_s_aload X36.here hx (hb hby at_407) rfl rfl ?_
  refine own_s_iload X36.here hx (hb hby at_409) rfl ?_
  obtain ⟨_, _, ⟨T37, L37, k37, n37⟩, -, X37, ⟨Lc37, hQ37, l37, y37, z37⟩, st37⟩ := Jvm.LawKit.callS X36 hx (y := (⟨"com/example/fold_time/foldtime/model/ByteWriterPutVarintPinLaw", "at", "([BIII[BB)Z"⟩ : MethodName)) hown (mvT hZ (hw _ (List.mem_of_getElem? (i := 6) rfl))) (mvT hZ (hw _ (List.mem_of_getElem? (i := 7) rfl))) (mvT hZ (hw _ (List.mem_of_getElem? (i := 8) rfl))) (mvT hZ (hw _ (List.mem_of_getElem? (i := 9) rfl))) (by decide) (backOf (W := 0) (own_r2 l Z a0 hw [] t_ (6 : Int32) po n_ e_ bb 6 ps nn (fun i => .int (own_tf bb ps nn ev i)) ev h0 n0 Z0 (by decide) hp hn (by decide) h2 h3 rfl A_t_ A_e_) hZ (hw _ (List.mem_of_getElem? (i := 9) rfl)) (hw _ (List.mem_of_getElem? (i := 8) rfl)) (by decide) (by decide)) (g := (mkF m 411 #[.val (.int v0), .val (.int s0), .val (.int p0), .val (.int f0), .val (.int vl), .val (.int po), .val (.int bb), .val (.ref t_), .val (.int n_), .val (.ref e_), .val (.int rt)] [(.int bb), (.ref e_), (.int n_), (.int po), (.int (6 : Int32)), (.ref t_)])) rfl (by rw [hml]; rfl) (argsL := [(.ref t_), (.int (6 : Int32)), (.int po), (.int n_), (.ref e_), (.int bb)]) (rest := []) (lenOf own_pd_1 rfl) rfl (by show 2 * 0 + _ ≤ _; exact Nat.le_of_eq rfl) (hb hby at_411) (fun _ _ => ⟨rfl, e36, (by decide : 2 + 0 ≤ _), (by decide : 18 + 0 ≤ _)⟩)
  dsimp only [Pt.U, Pt.locs, Pt.cells, Pt.slots] at X37 l37 y37 z37 st37 hQ37
  subst l37 y37 z37
  obtain ⟨rfl, N37q, e37⟩ := hQ37
  have N37 := Fr.app N36 N37q
  refine own_by st37 ?_
  show own_Go p e below T37 (mkF m 414 #[.val (.int v0), .val (.int s0), .val (.int p0), .val (.int f0), .val (.int vl), .val (.int po), .val (.int bb), .val (.ref t_), .val (.int n_), .val (.ref e_), .val (.int rt)] [(.int (1 : Int32))]) _
  refine own_s_ifNo X37.here hx (hb hby at_414) (Jvm.Free.XT.i0_eq_f ((by decide))) ?_
  refine own_s_aload X37.here hx (hb hby at_417) rfl rfl ?_
  refine own_s_bipush X37.here hx (7 : Int32) (hb hby at_419) rfl ?_
  refine own_s_iload X37.here hx (hb hby at_421) rfl ?_
  refine own_s_iload X37.here hx (hb hby at_423) rfl ?_
  refine own_s_aload X37.here hx (hb hby at_425) rfl rfl ?_
  refine own_s_iload X37.here hx (hb hby at_427) rfl ?_
  obtain ⟨_, _, ⟨T38, L38, k38, n38⟩, -, X38, ⟨Lc38, hQ38, l38, y38, z38⟩, st38⟩ := Jvm.LawKit.callS X37 hx (y := (⟨"com/example/fold_time/foldtime/model/ByteWriterPutVarintPinLaw", "at", "([BIII[BB)Z"⟩ : MethodName)) hown (mvT hZ (hw _ (List.mem_of_getElem? (i := 6) rfl))) (mvT hZ (hw _ (List.mem_of_getElem? (i := 7) rfl))) (mvT hZ (hw _ (List.mem_of_getElem? (i := 8) rfl))) (mvT hZ (hw _ (List.mem_of_getElem? (i := 9) rfl))) (by decide) (backOf (W := 0) (own_r2 l Z a0 hw [] t_ (7 : Int32) po n_ e_ bb 7 ps nn (fun i => .int (own_tf bb ps nn ev i)) ev h0 n0 Z0 (by decide) hp hn (by decide) h2 h3 rfl A_t_ A_e_) hZ (hw _ (List.mem_of_getElem? (i := 9) rfl)) (hw _ (List.mem_of_getElem? (i := 8) rfl)) (by decide) (by decide)) (g := (mkF m 429 #[.val (.int v0), .val (.int s0), .val (.int p0), .val (.int f0), .val (.int vl), .val (.int po), .val (.int bb), .val (.ref t_), .val (.int n_), .val (.ref e_), .val (.int rt)] [(.int bb), (.ref e_), (.int n_), (.int po), (.int (7 : Int32)), (.ref t_)])) rfl (by rw [hml]; rfl) (argsL := [(.ref t_), (.int (7 : Int32)), (.int po), (.int n_), (.ref e_), (.int bb)]) (rest := []) (lenOf own_pd_1 rfl) rfl (by show 2 * 0 + _ ≤ _; exact Nat.le_of_eq rfl) (hb hby at_429) (fun _ _ => ⟨rfl, e37, (by decide : 2 + 0 ≤ _), (by decide : 18 + 0 ≤ _)⟩)
  dsimp only [Pt.U, Pt.locs, Pt.cells, Pt.slots] at X38 l38 y38 z38 st38 hQ38
  subst l38 y38 z38
  obtain ⟨rfl, N38q, e38⟩ := hQ38
  have N38 := Fr.app N37 N38q
  refine own_by st38 ?_
  show own_Go p e below T38 (mkF m 432 #[.val (.int v0), .val (.int s0), .val (.int p0), .val (.int f0), .val (.int vl), .val (.int po), .val (.int bb), .val (.ref t_), .val (.int n_), .val (.ref e_), .val (.int rt)] [(.int (1 : Int32))]) _
  refine own_s_ifNo X38.here hx (hb hby at_432) (Jvm.Free.XT.i0_eq_f ((by decide))) ?_
  refine own_s_aload X38.here hx (hb hby at_435) rfl rfl ?_
  refine own_s_bipush X38.here hx (8 : Int32) (hb hby at_437) rfl ?_
  refine own_s_iload X38.here hx (hb hby at_439) rfl ?_
  refine own_s_iload X38.here hx (hb hby at_441) rfl ?_
  refine own_s_aload X38.here hx (hb hby at_443) rfl rfl ?_
  refine own_s_iload X38.here hx (hb hby at_445) rfl ?_
  obtain ⟨_, _, ⟨T39, L39, k39, n39⟩, -, X39, ⟨Lc39, hQ39, l39, y39, z39⟩, st39⟩ := Jvm.LawKit.callS X38 hx (y := (⟨"com/example/fold_time/foldtime/model/ByteWriterPutVarintPinLaw", "at", "([BIII[BB)Z"⟩ : MethodName)) hown (mvT hZ (hw _ (List.mem_of_getElem? (i := 6) rfl))) (mvT hZ (hw _ (List.mem_of_getElem? (i := 7) rfl))) (mvT hZ (hw _ (List.mem_of_getElem? (i := 8) rfl))) (mvT hZ (hw _ (List.mem_of_getElem? (i := 9) rfl))) (by decide) (backOf (W := 0) (own_r2 l Z a0 hw [] t_ (8 : Int32) po n_ e_ bb 8 ps nn (fun i => .int (own_tf bb ps nn ev i)) ev h0 n0 Z0 (by decide) hp hn (by decide) h2 h3 rfl A_t_ A_e_) hZ (hw _ (List.mem_of_getElem? (i := 9) rfl)) (hw _ (List.mem_of_getElem? (i := 8) rfl)) (by decide) (by decide)) (g := (mkF m 447 #[.val (.int v0), .val (.int s0), .val (.int p0), .val (.int f0), .val (.int vl), .val (.int po), .val (.int bb), .val (.ref t_), .val (.int n_), .val (.ref e_), .val (.int rt)] [(.int bb), (.ref e_), (.int n_), (.int po), (.int (8 : Int32)), (.ref t_)])) rfl (by rw [hml]; rfl) (argsL := [(.ref t_), (.int (8 : Int32)), (.int po), (.int n_), (.ref e_), (.int bb)]) (rest := []) (lenOf own_pd_1 rfl) rfl (by show 2 * 0 + _ ≤ _; exact Nat.le_of_eq rfl) (hb hby at_447) (fun _ _ => ⟨rfl, e38, (by decide : 2 + 0 ≤ _), (by decide : 18 + 0 ≤ _)⟩)
  dsimp only [Pt.U, Pt.locs, Pt.cells, Pt.slots] at X39 l39 y39 z39 st39 hQ39
  subst l39 y39 z39
  obtain ⟨rfl, N39q, e39⟩ := hQ39
  have N39 := Fr.app N38 N39q
  refine own_by st39 ?_
  show own_Go p e below T39 (mkF m 450 #[.val (.int v0), .val (.int s0), .val (.int p0), .val (.int f0), .val (.int vl), .val (.int po), .val (.int bb), .val (.ref t_), .val (.int n_), .val (.ref e_), .val (.int rt)] [(.int (1 : Int32))]) _
  refine own_s_ifNo X39.here hx (hb hby at_450) (Jvm.Free.XT.i0_eq_f ((by decide))) ?_
  refine own_s_aload X39.here hx (hb hby at_453) rfl rfl ?_
  refine own_s_bipush X39.here hx (9 : Int32) (hb hby at_455) rfl ?_
  refine own_s_iload X39.here hx (hb hby at_457) rfl ?_
  refine own_s_iload X39.here hx (hb hby at_459) rfl ?_
  refine own_s_aload X39.here hx (hb hby at_461) rfl rfl ?_
  refine own_s_iload X39.here hx (hb hby at_463) rfl ?_
  obtain ⟨_, _, ⟨T40, L40, k40, n40⟩, -, X40, ⟨Lc40, hQ40, l40, y40, z40⟩, st40⟩ := Jvm.LawKit.callS X39 hx (y := (⟨"com/example/fold_time/foldtime/model/ByteWriterPutVarintPinLaw", "at", "([BIII[BB)Z"⟩ : MethodName)) hown (mvT hZ (hw _ (List.mem_of_getElem? (i := 6) rfl))) (mvT hZ (hw _ (List.mem_of_getElem? (i := 7) rfl))) (mvT hZ (hw _ (List.mem_of_getElem? (i := 8) rfl))) (mvT hZ (hw _ (List.mem_of_getElem? (i := 9) rfl))) (by decide) (backOf (W := 0) (own_r2 l Z a0 hw [] t_ (9 : Int32) po n_ e_ bb 9 ps nn (fun i => .int (own_tf bb ps nn ev i)) ev h0 n0 Z0 (by decide) hp hn (by decide) h2 h3 rfl A_t_ A_e_) hZ (hw _ (List.mem_of_getElem? (i := 9) rfl)) (hw _ (List.mem_of_getElem? (i := 8) rfl)) (by decide) (by decide)) (g := (mkF m 465 #[.val (.int v0), .val (.int s0), .val (.int p0), .val (.int f0), .val (.int vl), .val (.int po), .val (.int bb), .val (.ref t_), .val (.int n_), .val (.ref e_), .val (.int rt)] [(.int bb), (.ref e_), (.int n_), (.int po), (.int (9 : Int32)), (.ref t_)])) rfl (by rw [hml]; rfl) (argsL := [(.ref t_), (.int (9 : Int32)), (.int po), (.int n_), (.ref e_), (.int bb)]) (rest := []) (lenOf own_pd_1 rfl) rfl (by show 2 * 0 + _ ≤ _; exact Nat.le_of_eq rfl) (hb hby at_465) (fun _ _ => ⟨rfl, e39, (by decide : 2 + 0 ≤ _), (by decide : 18 + 0 ≤ _)⟩)
  dsimp only [Pt.U, Pt.locs, Pt.cells, Pt.slots] at X40 l40 y40 z40 st40 hQ40
  subst l40 y40 z40
  obtain ⟨rfl, N40q, e40⟩ := hQ40
  have N40 := Fr.app N39 N40q
  refine own_by st40 ?_
  show own_Go p e below T40 (mkF m 468 #[.val (.int v0), .val (.int s0), .val (.int p0), .val (.int f0), .val (.int vl), .val (.int po), .val (.int bb), .val (.ref t_), .val (.int n_), .val (.ref e_), .val (.int rt)] [(.int (1 : Int32))]) _
  refine own_s_ifNo X40.here hx (hb hby at_468) (Jvm.Free.XT.i0_eq_f ((by decide))) ?_
  refine own_s_aload X40.here hx (hb hby at_471) rfl rfl ?_
  refine own_s_bipush X40.here hx (10 : Int32) (hb hby at_473) rfl ?_
  refine own_s_iload X40.here hx (hb hby at_475) rfl ?_
  refine own_s_iload X40.here hx (hb hby at_477) rfl ?_
  refine own_s_aload X40.here hx (hb hby at_479) rfl rfl ?_
  refine own_s_iload X40.here hx (hb hby at_481) rfl ?_
  obtain ⟨_, _, ⟨T41, L41, k41, n41⟩, -, X41, ⟨Lc41, hQ41, l41, y41, z41⟩, st41⟩ := Jvm.LawKit.callS X40 hx (y := (⟨"com/example/fold_time/foldtime/model/ByteWriterPutVarintPinLaw", "at", "([BIII[BB)Z"⟩ : MethodName)) hown (mvT hZ (hw _ (List.mem_of_getElem? (i := 6) rfl))) (mvT hZ (hw _ (List.mem_of_getElem? (i := 7) rfl))) (mvT hZ (hw _ (List.mem_of_getElem? (i := 8) rfl))) (mvT hZ (hw _ (List.mem_of_getElem? (i := 9) rfl))) (by decide) (backOf (W := 0) (own_r2 l Z a0 hw [] t_ (10 : Int32) po n_ e_ bb 10 ps nn (fun i => .int (own_tf bb ps nn ev i)) ev h0 n0 Z0 (by decide) hp hn (by decide) h2 h3 rfl A_t_ A_e_) hZ (hw _ (List.mem_of_getElem? (i := 9) rfl)) (hw _ (List.mem_of_getElem? (i := 8) rfl)) (by decide) (by decide)) (g := (mkF m 483 #[.val (.int v0), .val (.int s0), .val (.int p0), .val (.int f0), .val (.int vl), .val (.int po), .val (.int bb), .val (.ref t_), .val (.int n_), .val (.ref e_), .val (.int rt)] [(.int bb), (.ref e_), (.int n_), (.int po), (.int (10 : Int32)), (.ref t_)])) rfl (by rw [hml]; rfl) (argsL := [(.ref t_), (.int (10 : Int32)), (.int po), (.int n_), (.ref e_), (.int bb)]) (rest := []) (lenOf own_pd_1 rfl) rfl (by show 2 * 0 + _ ≤ _; exact Nat.le_of_eq rfl) (hb hby at_483) (fun _ _ => ⟨rfl, e40, (by decide : 2 + 0 ≤ _), (by decide : 18 + 0 ≤ _)⟩)
  dsimp only [Pt.U, Pt.locs, Pt.cells, Pt.slots] at X41 l41 y41 z41 st41 hQ41
  subst l41 y41 z41
  obtain ⟨rfl, N41q, e41⟩ := hQ41
  have N41 := Fr.app N40 N41q
  refine own_by st41 ?_
  show own_Go p e below T41 (mkF m 486 #[.val (.int v0), .val (.int s0), .val (.int p0), .val (.int f0), .val (.int vl), .val (.int po), .val (.int bb), .val (.ref t_), .val (.int n_), .val (.ref e_), .val (.int rt)] [(.int (1 : Int32))]) _
  refine own_s_ifNo X41.here hx (hb hby at_486) (Jvm.Free.XT.i0_eq_f ((by decide))) ?_
  refine own_s_aload X41.here hx (hb hby at_489) rfl rfl ?_
  refine own_s_bipush X41.here hx (11 : Int32) (hb hby at_491) rfl ?_
  refine own_s_iload X41.here hx (hb hby at_493) rfl ?_
  refine own_s_iload X41.here hx (hb hby at_495) rfl ?_
  refine own_s_aload X41.here hx (hb hby at_497) rfl rfl ?_
  refine own_s_iload X41.here hx (hb hby at_499) rfl ?_
  obtain ⟨_, _, ⟨T42, L42, k42, n42⟩, -, X42, ⟨Lc42, hQ42, l42, y42, z42⟩, st42⟩ := Jvm.LawKit.callS X41 hx (y := (⟨"com/example/fold_time/foldtime/model/ByteWriterPutVarintPinLaw", "at", "([BIII[BB)Z"⟩ : MethodName)) hown (mvT hZ (hw _ (List.mem_of_getElem? (i := 6) rfl))) (mvT hZ (hw _ (List.mem_of_getElem? (i := 7) rfl))) (mvT hZ (hw _ (List.mem_of_getElem? (i := 8) rfl))) (mvT hZ (hw _ (List.mem_of_getElem? (i := 9) rfl))) (by decide) (backOf (W := 0) (own_r2 l Z a0 hw [] t_ (11 : Int32) po n_ e_ bb 11 ps nn (fun i => .int (own_tf bb ps nn ev i)) ev h0 n0 Z0 (by decide) hp hn (by decide) h2 h3 rfl A_t_ A_e_) hZ (hw _ (List.mem_of_getElem? (i := 9) rfl)) (hw _ (List.mem_of_getElem? (i := 8) rfl)) (by decide) (by decide)) (g := (mkF m 501 #[.val (.int v0), .val (.int s0), .val (.int p0), .val (.int f0), .val (.int vl), .val (.int po), .val (.int bb), .val (.ref t_), .val (.int n_), .val (.ref e_), .val (.int rt)] [(.int bb), (.ref e_), (.int n_), (.int po), (.int (11 : Int32)), (.ref t_)])) rfl (by rw [hml]; rfl) (argsL := [(.ref t_), (.int (11 : Int32)), (.int po), (.int n_), (.ref e_), (.int bb)]) (rest := []) (lenOf own_pd_1 rfl) rfl (by show 2 * 0 + _ ≤ _; exact Nat.le_of_eq rfl) (hb hby at_501) (fun _ _ => ⟨rfl, e41, (by decide : 2 + 0 ≤ _), (by decide : 18 + 0 ≤ _)⟩)
  dsimp only [Pt.U, Pt.locs, Pt.cells, Pt.slots] at X42 l42 y42 z42 st42 hQ42
  subst l42 y42 z42
  obtain ⟨rfl, N42q, e42⟩ := hQ42
  have N42 := Fr.app N41 N42q
  refine own_by st42 ?_
  show own_Go p e below T42 (mkF m 504 #[.val (.int v0), .val (.int s0), .val (.int p0), .val (.int f0), .val (.int vl), .val (.int po), .val (.int bb), .val (.ref t_), .val (.int n_), .val (.ref e_), .val (.int rt)] [(.int (1 : Int32))]) _
  refine own_s_ifNo X42.here hx (hb hby at_504) (Jvm.Free.XT.i0_eq_f ((by decide))) ?_
  refine own_s_aload X42.here hx (hb hby at_507) rfl rfl ?_
  refine own_s_bipush X42.here hx (12 : Int32) (hb hby at_509) rfl ?_
  refine own_s_iload X42.here hx (hb hby at_511) rfl ?_
  refine own_s_iload X42.here hx (hb hby at_513) rfl ?_
  refine own_s_aload X42.here hx (hb hby at_515) rfl rfl ?_
  refine own_s_iload X42.here hx (hb hby at_517) rfl ?_
  obtain ⟨_, _, ⟨T43, L43, k43, n43⟩, -, X43, ⟨Lc43, hQ43, l43, y43, z43⟩, st43⟩ := Jvm.LawKit.callS X42 hx (y := (⟨"com/example/fold_time/foldtime/model/ByteWriterPutVarintPinLaw", "at", "([BIII[BB)Z"⟩ : MethodName)) hown (mvT hZ (hw _ (List.mem_of_getElem? (i := 6) rfl))) (mvT hZ (hw _ (List.mem_of_getElem? (i := 7) rfl))) (mvT hZ (hw _ (List.mem_of_getElem? (i := 8) rfl))) (mvT hZ (hw _ (List.mem_of_getElem? (i := 9) rfl))) (by decide) (backOf (W := 0) (own_r2 l Z a0 hw [] t_ (12 : Int32) po n_ e_ bb 12 ps nn (fun i => .int (own_tf bb ps nn ev i)) ev h0 n0 Z0 (by decide) hp hn (by decide) h2 h3 rfl A_t_ A_e_) hZ (hw _ (List.mem_of_getElem? (i := 9) rfl)) (hw _ (List.mem_of_getElem? (i := 8) rfl)) (by decide) (by decide)) (g := (mkF m 519 #[.val (.int v0), .val (.int s0), .val (.int p0), .val (.int f0), .val (.int vl), .val (.int po), .val (.int bb), .val (.ref t_), .val (.int n_), .val (.ref e_), .val (.int rt)] [(.int bb), (.ref e_), (.int n_), (.int po), (.int (12 : Int32)), (.ref t_)])) rfl (by rw [hml]; rfl) (argsL := [(.ref t_), (.int (12 : Int32)), (.int po), (.int n_), (.ref e_), (.int bb)]) (rest := []) (lenOf own_pd_1 rfl) rfl (by show 2 * 0 + _ ≤ _; exact Nat.le_of_eq rfl) (hb hby at_519) (fun _ _ => ⟨rfl, e42, (by decide : 2 + 0 ≤ _), (by decide : 18 + 0 ≤ _)⟩)
  dsimp only [Pt.U, Pt.locs, Pt.cells, Pt.slots] at X43 l43 y43 z43 st43 hQ43
  subst l43 y43 z43
  obtain ⟨rfl, N43q, e43⟩ := hQ43
  have N43 := Fr.app N42 N43q
  refine own_by st43 ?_
  show own_Go p e below T43 (mkF m 522 #[.val (.int v0), .val (.int s0), .val (.int p0), .val (.int f0), .val (.int vl), .val (.int po), .val (.int bb), .val (.ref t_), .val (.int n_), .val (.ref e_), .val (.int rt)] [(.int (1 : Int32))]) _
  refine own_s_ifNo X43.here hx (hb hby at_522) (Jvm.Free.XT.i0_eq_f ((by decide))) ?_
  refine own_s_iconst X43.here hx (1 : Int32) (hb hby at_525) rfl ?_
  show own_Go p e below T43 (mkF m 526 #[.val (.int v0), .val (.int s0), .val (.int p0), .val (.int f0), .val (.int vl), .val (.int po), .val (.int bb), .val (.ref t_), .val (.int n_), .val (.ref e_), .val (.int rt)] [(.int (1 : Int32))]) _
  refine own_s_goto X43.here hx 530 (hb hby at_526) (by decide) (by decide) ?_
  refine own_retZ X43 hx hret hlk (hb hby at_530) rfl (by decide) (by decide) ?_
  exact ⟨rfl, N43⟩
theorem own_shn (x : Int32) (n : UInt32) (k : Nat) (hn : n.toNat = k) (hk : k < 32) : ((x.toUInt32 >>> n).toInt32).toBitVec = x.toBitVec >>> k := by
  apply BitVec.eq_of_toNat_eq
  simp only [UInt32.toBitVec_toInt32, UInt32.toBitVec_shiftRight, Int32.toBitVec_toUInt32]
  simp [BitVec.toNat_ushiftRight, hn, Nat.mod_eq_of_lt hk]
theorem own_s7b (x : Int32) : (own_s7 x).toBitVec = x.toBitVec >>> 7 := own_shn x _ 7 (by decide) (by decide)
theorem own_s14 (v : Int32) : own_s7 (own_s7 v) = ((v.toUInt32 >>> ((14 : Int32) &&& 31).toUInt32).toInt32) := Int32.toBitVec_inj.mp (by rw [own_s7b, own_s7b, own_shn _ _ 14 (by decide) (by decide), ← BitVec.shiftRight_add])
theorem own_s21 (v : Int32) : own_s7 (own_s7 (own_s7 v)) = ((v.toUInt32 >>> ((21 : Int32) &&& 31).toUInt32).toInt32) := Int32.toBitVec_inj.mp (by rw [own_s7b, own_s7b, own_s7b, own_shn _ _ 21 (by decide) (by decide), ← BitVec.shiftRight_add, ← BitVec.shiftRight_add])
theorem own_s28 (v : Int32) : own_s7 (own_s7 (own_s7 (own_s7 v))) = ((v.toUInt32 >>> ((28 : Int32) &&& 31).toUInt32).toInt32) := Int32.toBitVec_inj.mp (by rw [own_s7b, own_s7b, own_s7b, own_s7b, own_shn _ _ 28 (by decide) (by decide), ← BitVec.shiftRight_add, ← BitVec.shiftRight_add, ← BitVec.shiftRight_add])
theorem own_s7i (x : Int32) (hx : 0 ≤ x.toInt) : (own_s7 x).toInt = x.toInt / 128 := by
  unfold own_s7
  exact Jvm.Kit.i32_iushr (Jvm.Kit.i32_nonneg.mpr hx) (k := 7) (by decide) (by decide)
theorem own_split (x : Int32) : x = (x &&& (-128 : Int32)) ||| (x &&& (127 : Int32)) := by
  apply Int32.toBitVec_inj.mp
  apply BitVec.eq_of_getLsbD_eq
  intro i hi
  have e : ∀ j : Fin 32, ((-128 : Int32)).toBitVec.getLsbD j.val = !(127 : Int32).toBitVec.getLsbD j.val := by decide +kernel
  have q := e ⟨i, hi⟩
  simp only [Int32.toBitVec_or, Int32.toBitVec_and, BitVec.getLsbD_or, BitVec.getLsbD_and, q]
  cases x.toBitVec.getLsbD i <;> cases (127 : Int32).toBitVec.getLsbD i <;> rfl
theorem own_sm : ∀ n : Fin 128, ((Int32.ofNat n.val) &&& (-128 : Int32)) = 0 ∧ ((Int32.ofNat n.val) &&& (127 : Int32)) ||| (0 : Int32) = Int32.ofNat n.val := by decide +kernel
theorem own_ofn {x : Int32} (h : 0 ≤ x.toInt) : x = Int32.ofNat x.toInt.toNat := by
  apply Int32.toInt_inj.mp
  have := x.toInt_lt
  rw [Int32.toInt_ofNat_small (by omega)]
  omega
theorem own_mk (x : Int32) (hx : 0 ≤ x.toInt) : (x &&& (-128 : Int32)) = 0 ↔ x.toInt < 128 := by
  constructor
  · intro h
    have e := own_split x
    rw [h, Int32.zero_or] at e
    have e1 : (x &&& (127 : Int32)).toInt = x.toInt % 2 ^ 7 := Jvm.Kit.i32_mask x _ (k := 7) (by decide) (by decide)
    rw [← e] at e1
    omega
  · intro h
    have q := (own_sm ⟨x.toInt.toNat, by omega⟩).1
    rw [← own_ofn hx] at q
    exact q
theorem own_lo (x : Int32) (hx : 0 ≤ x.toInt) (h : x.toInt < 128) : ((x &&& (127 : Int32)) ||| (0 : Int32)) = x := by
  have q := (own_sm ⟨x.toInt.toNat, by omega⟩).2
  rw [← own_ofn hx] at q
  exact q
theorem own_vb (v0 s0 : Int32) : 0 ≤ (((v0 &&& (2147483647 : Int32)).toUInt32 >>> ((s0 &&& (31 : Int32)) &&& 31).toUInt32).toInt32).toInt := by
  have e1 : (v0 &&& (2147483647 : Int32)).toInt = v0.toInt % 2 ^ 31 := Jvm.Kit.i32_mask v0 _ (k := 31) (by decide) (by decide)
  have hb := (v0 &&& (2147483647 : Int32)).toBitVec.isLt
  have e2 : (v0 &&& (2147483647 : Int32)).toInt = (v0 &&& (2147483647 : Int32)).toBitVec.toInt := rfl
  have hn : (v0 &&& (2147483647 : Int32)).toBitVec.toNat < 2 ^ 31 := by rw [BitVec.toInt_eq_toNat_cond] at e2; split at e2 <;> omega
  generalize (v0 &&& (2147483647 : Int32)) = y at *
  generalize ((s0 &&& (31 : Int32)) &&& 31).toUInt32 = n at *
  have e3 : ((y.toUInt32 >>> n).toInt32).toBitVec.toNat ≤ y.toBitVec.toNat := by
    simp only [UInt32.toBitVec_toInt32, UInt32.toBitVec_shiftRight, Int32.toBitVec_toUInt32]
    rw [BitVec.ushiftRight_eq', BitVec.toNat_ushiftRight]
    exact Nat.shiftRight_le _ _
  have e4 : ((y.toUInt32 >>> n).toInt32).toInt = ((y.toUInt32 >>> n).toInt32).toBitVec.toInt := rfl
  rw [e4, BitVec.toInt_eq_toNat_cond, if_pos (by omega)]
  omega
theorem own_pb (x : Int32) : own_At (x &&& (7 : Int32)) (x &&& (7 : Int32)).toNatClampNeg ∧ (x &&& (7 : Int32)).toNatClampNeg ≤ 7 := by
  have e1 : (x &&& (7 : Int32)).toInt = x.toInt % 2 ^ 3 := Jvm.Kit.i32_mask x _ (k := 3) (by decide) (by decide)
  refine ⟨⟨?_, rfl⟩, ?_⟩
  · rw [Int32.lt_iff_toInt_lt, e1, show (0 : Int32).toInt = 0 from by decide]; omega
  · simp only [Int32.toNatClampNeg, e1]; omega
theorem own_px1 (u0 : Int32) : (u0 + (1 : Int32)) = u0 + (1 : Int32) := by first | rfl | (simp only [Int32.add_assoc]; rfl)
theorem own_tfs1 (v b : Int32) (ps : Nat) (ev : Nat → Int32) (he0 : ev 0 = (own_by8 v)) : ∀ i, i < 13 → (own_upd (fun _ => (.int b)) ps (.int (own_by8 v))) i = (.int (own_tf b ps 1 ev i)) := by
  intro i hi
  unfold own_tf
  by_cases q0 : i = ps
  · rw [own_upd_hit q0, if_pos (by omega), show i - ps = 0 from by omega, he0]
  rw [own_upd_miss q0, if_neg (by omega)]
theorem own_px2 (u0 : Int32) : ((u0 + (1 : Int32)) + (1 : Int32)) = u0 + (2 : Int32) := by first | rfl | (simp only [Int32.add_assoc]; rfl)
theorem own_tfs2 (v b : Int32) (ps : Nat) (ev : Nat → Int32) (he0 : ev 0 = (own_mid v)) (he1 : ev 1 = (own_by8 (own_s7 v))) : ∀ i, i < 13 → (own_upd (own_upd (fun _ => (.int b)) ps (.int (own_mid v))) (ps + 1) (.int (own_by8 (own_s7 v)))) i = (.int (own_tf b ps 2 ev i)) := by
  intro i hi
  unfold own_tf
  by_cases q1 : i = (ps + 1)
  · rw [own_upd_hit q1, if_pos (by omega), show i - ps = 1 from by omega, he1]
  by_cases q0 : i = ps
  · rw [own_upd_miss (by omega), own_upd_hit q0, if_pos (by omega), show i - ps = 0 from by omega, he0]
  rw [own_upd_miss q1, own_upd_miss q0, if_neg (by omega)]
theorem own_px3 (u0 : Int32) : (((u0 + (1 : Int32)) + (1 : Int32)) + (1 : Int32)) = u0 + (3 : Int32) := by first | rfl | (simp only [Int32.add_assoc]; rfl)
theorem own_tfs3 (v b : Int32) (ps : Nat) (ev : Nat → Int32) (he0 : ev 0 = (own_mid v)) (he1 : ev 1 = (own_mid (own_s7 v))) (he2 : ev 2 = (own_by8 (own_s7 (own_s7 v)))) : ∀ i, i < 13 → (own_upd (own_upd (own_upd (fun _ => (.int b)) ps (.int (own_mid v))) (ps + 1) (.int (own_mid (own_s7 v)))) ((ps + 1) + 1) (.int (own_by8 (own_s7 (own_s7 v))))) i = (.int (own_tf b ps 3 ev i)) := by
  intro i hi
  unfold own_tf
  by_cases q2 : i = ((ps + 1) + 1)
  · rw [own_upd_hit q2, if_pos (by omega), show i - ps = 2 from by omega, he2]
  by_cases q1 : i = (ps + 1)
  · rw [own_upd_miss (by omega), own_upd_hit q1, if_pos (by omega), show i - ps = 1 from by omega, he1]
  by_cases q0 : i = ps
  · rw [own_upd_miss (by omega), own_upd_miss (by omega), own_upd_hit q0, if_pos (by omega), show i - ps = 0 from by omega, he0]
  rw [own_upd_miss q2, own_upd_miss q1, own_upd_miss q0, if_neg (by omega)]
theorem own_px4 (u0 : Int32) : ((((u0 + (1 : Int32)) + (1 : Int32)) + (1 : Int32)) + (1 : Int32)) = u0 + (4 : Int32) := by first | rfl | (simp only [Int32.add_assoc]; rfl)
theorem own_tfs4 (v b : Int32) (ps : Nat) (ev : Nat → Int32) (he0 : ev 0 = (own_mid v)) (he1 : ev 1 = (own_mid (own_s7 v))) (he2 : ev 2 = (own_mid (own_s7 (own_s7 v)))) (he3 : ev 3 = (own_by8 (own_s7 (own_s7 (own_s7 v))))) : ∀ i, i < 13 → (own_upd (own_upd (own_upd (own_upd (fun _ => (.int b)) ps (.int (own_mid v))) (ps + 1) (.int (own_mid (own_s7 v)))) ((ps + 1) + 1) (.int (own_mid (own_s7 (own_s7 v))))) (((ps + 1) + 1) + 1) (.int (own_by8 (own_s7 (own_s7 (own_s7 v)))))) i = (.int (own_tf b ps 4 ev i)) := by
  intro i hi
  unfold own_tf
  by_cases q3 : i = (((ps + 1) + 1) + 1)
  · rw [own_upd_hit q3, if_pos (by omega), show i - ps = 3 from by omega, he3]
  by_cases q2 : i = ((ps + 1) + 1)
  · rw [own_upd_miss (by omega), own_upd_hit q2, if_pos (by omega), show i - ps = 2 from by omega, he2]
  by_cases q1 : i = (ps + 1)
  · rw [own_upd_miss (by omega), own_upd_miss (by omega), own_upd_hit q1, if_pos (by omega), show i - ps = 1 from by omega, he1]
  by_cases q0 : i = ps
  · rw [own_upd_miss (by omega), own_upd_miss (by omega), own_upd_miss (by omega), own_upd_hit q0, if_pos (by omega), show i - ps = 0 from by omega, he0]
  rw [own_upd_miss q3, own_upd_miss q2, own_upd_miss q1, own_upd_miss q0, if_neg (by omega)]
theorem own_px5 (u0 : Int32) : (((((u0 + (1 : Int32)) + (1 : Int32)) + (1 : Int32)) + (1 : Int32)) + (1 : Int32)) = u0 + (5 : Int32) := by first | rfl | (simp only [Int32.add_assoc]; rfl)
theorem own_tfs5 (v b : Int32) (ps : Nat) (ev : Nat → Int32) (he0 : ev 0 = (own_mid v)) (he1 : ev 1 = (own_mid (own_s7 v))) (he2 : ev 2 = (own_mid (own_s7 (own_s7 v)))) (he3 : ev 3 = (own_mid (own_s7 (own_s7 (own_s7 v))))) (he4 : ev 4 = (own_by8 (own_s7 (own_s7 (own_s7 (own_s7 v)))))) : ∀ i, i < 13 → (own_upd (own_upd (own_upd (own_upd (own_upd (fun _ => (.int b)) ps (.int (own_mid v))) (ps + 1) (.int (own_mid (own_s7 v)))) ((ps + 1) + 1) (.int (own_mid (own_s7 (own_s7 v))))) (((ps + 1) + 1) + 1) (.int (own_mid (own_s7 (own_s7 (own_s7 v)))))) ((((ps + 1) + 1) + 1) + 1) (.int (own_by8 (own_s7 (own_s7 (own_s7 (own_s7 v))))))) i = (.int (own_tf b ps 5 ev i)) := by
  intro i hi
  unfold own_tf
  by_cases q4 : i = ((((ps + 1) + 1) + 1) + 1)
  · rw [own_upd_hit q4, if_pos (by omega), show i - ps = 4 from by omega, he4]
  by_cases q3 : i = (((ps + 1) + 1) + 1)
  · rw [own_upd_miss (by omega), own_upd_hit q3, if_pos (by omega), show i - ps = 3 from by omega, he3]
  by_cases q2 : i = ((ps + 1) + 1)
  · rw [own_upd_miss (by omega), own_upd_miss (by omega), own_upd_hit q2, if_pos (by omega), show i - ps = 2 from by omega, he2]
  by_cases q1 : i = (ps + 1)
  · rw [own_upd_miss (by omega), own_upd_miss (by omega), own_upd_miss (by omega), own_upd_hit q1, if_pos (by omega), show i - ps = 1 from by omega, he1]
  by_cases q0 : i = ps
  · rw [own_upd_miss (by omega), own_upd_miss (by omega), own_upd_miss (by omega), own_upd_miss (by omega), own_upd_hit q0, if_pos (by omega), show i - ps = 0 from by omega, he0]
  rw [own_upd_miss q4, own_upd_miss q3, own_upd_miss q2, own_upd_miss q1, own_upd_miss q0, if_neg (by omega)]
theorem own_cond (v : Int32) (hv : 0 ≤ v.toInt) : 0 ≤ (own_s7 v).toInt ∧ (own_s7 v).toInt = v.toInt / 128 := by
  have e := own_s7i v hv
  omega
theorem own_ml : maxLocals = 11 := rfl
theorem own_ef0 (m : MethodId) (v0 : Int32) (s0 : Int32) (p0 : Int32) (f0 : Int32) : entryFrame m #[(.int v0), (.int s0), (.int p0), (.int f0)] maxLocals = mkF m 0 #[.val (.int v0), .val (.int s0), .val (.int p0), .val (.int f0), .unset, .unset, .unset, .unset, .unset, .unset, .unset] [] := by first | (simp [entryFrame, mkF, argsToLocals, Value.category, maxLocals]; done) | rfl
theorem own_pd_0 : parseMethodDescriptor "([BII)I" = some ⟨[(.array .byte), .int, .int], some .int⟩ := by decide +kernel
def own_q_own_r0 (Z : State) (v0 : Int32) (s0 : Int32) (p0 : Int32) (f0 : Int32) (h0 : Heap) (n0 : Nat) (v : Option Value) (h : Heap) (L : List Loc) : Prop := v = some (.int 1) ∧ Fr n0 L
set_option maxRecDepth 65536 in
set_option maxHeartbeats 40000000 in
theorem own_r0 (l : Launch) (Z : State) (a0 : Array Value) (hw : ∀ d ∈ tables_1, d.before a0 Z = true) (ws : List Jvm.Cond) (v0 : Int32) (s0 : Int32) (p0 : Int32) (f0 : Int32) (h0 : Heap) (n0 : Nat) (Z0 : n0 ≤ h0.size) :
    MetFree l x (head1 (Jvm.Cond.code x code maxLocals ret :: ws) room_1) (fun aq Uq => aq = #[(.int v0), (.int s0), (.int p0), (.int f0)] ∧ Z.Warmed39 Uq.vm ∧ Uq.heap = h0) (fun _ _ _ _ _ => True) (fun _ Uq oq Uq' => ∃ vq Lq, oq = .returned vq ∧ own_q_own_r0 Z v0 s0 p0 f0 h0 n0 vq Uq'.heap Lq ∧ FrameEnd Uq oq Uq' Lq 16 128) := by
  refine MetFree.of_bodySF (plainFor_of_name own_pn_ByteWriterPutVarintPinLaw) hisR ?_
  intro p e s m args below meth c T0 Bd hml0 hP hK
  obtain ⟨rfl, hZ, hh⟩ := hP
  have hx := Bd.exec
  have hby := Bd.bytes
  have hml : c.maxLocals = 11 := hml0
  have hown : s.vm.findClass "com/example/fold_time/foldtime/model/ByteWriterPutVarintPinLaw" = some m.cls := findClass_of_methodNamed Bd.named
  have hnm := (name_of_methodNamed Bd.named Bd.method).1
  have hret : meth.sig.returnType = (some .boolean) := Bd.returns
  have hlk : meth.locks = false := BodyLoose.notSynchronized Bd
  have X0 : Stand p l e room_1 s m #[(.int v0), (.int s0), (.int p0), (.int f0)] below meth c T0 [] 0 0 := Stand.of_body Bd
  have e0 : T0.heap = h0 := by rw [← hh, Bd.state]; rfl
  have N0 := Fr.nil n0
  refine own_start (own_ef0 m v0 s0 p0 f0) (Q := fun (v : Option Value) (h : Heap) (L : List Loc) => v = some (.int 1) ∧ Fr n0 L) (k := 16) (j := 128) ?_
  show own_Go p e below T0 (mkF m 0 #[.val (.int v0), .val (.int s0), .val (.int p0), .val (.int f0), .unset, .unset, .unset, .unset, .unset, .unset, .unset] []) _
  refine own_s_iloadN X0.here hx (hb hby at_0) rfl ?_
  refine own_by (fun tq_ kq_ => X0.ldcInt hx hown (mvT hZ (hw _ (List.mem_of_getElem? (i := 0) rfl))) (g := (mkF m 1 #[.val (.int v0), .val (.int s0), .val (.int p0), .val (.int f0), .unset, .unset, .unset, .unset, .unset, .unset, .unset] [(.int v0)])) rfl (hb hby at_1) tq_ kq_) ?_
  show own_Go p e below T0 (mkF m 3 #[.val (.int v0), .val (.int s0), .val (.int p0), .val (.int f0), .unset, .unset, .unset, .unset, .unset, .unset, .unset] [(.int (2147483647 : Int32)), (.int v0)]) _
  refine own_s_iand X0.here hx (hb hby at_3) ?_
  refine own_s_iloadN X0.here hx (hb hby at_4) rfl ?_
  refine own_s_bipush X0.here hx (31 : Int32) (hb hby at_5) rfl ?_
  refine own_s_iand X0.here hx (hb hby at_7) ?_
  refine own_s_iushr X0.here hx (hb hby at_8) ?_
  refine own_s_istore X0.here hx #[.val (.int v0), .val (.int s0), .val (.int p0), .val (.int f0), .val (.int (((v0 &&& (2147483647 : Int32)).toUInt32 >>> ((s0 &&& (31 : Int32)) &&& 31).toUInt32).toInt32)), .unset, .unset, .unset, .unset, .unset, .unset] (hb hby at_9) rfl ?_
  have hvb := own_vb v0 s0
  generalize hvl : (((v0 &&& (2147483647 : Int32)).toUInt32 >>> ((s0 &&& (31 : Int32)) &&& 31).toUInt32).toInt32) = vl at hvb
  try rw [hvl]
  show own_Go p e below T0 (mkF m 11 #[.val (.int v0), .val (.int s0), .val (.int p0), .val (.int f0), .val (.int vl), .unset, .unset, .unset, .unset, .unset, .unset] []) _
  refine own_s_iloadN X0.here hx (hb hby at_11) rfl ?_
  refine own_s_bipush X0.here hx (7 : Int32) (hb hby at_12) rfl ?_
  refine own_s_iand X0.here hx (hb hby at_14) ?_
  refine own_s_istore X0.here hx #[.val (.int v0), .val (.int s0), .val (.int p0), .val (.int f0), .val (.int vl), .val (.int (p0 &&& (7 : Int32))), .unset, .unset, .unset, .unset, .unset] (hb hby at_15) rfl ?_
  have hp := own_pb p0
  generalize hpo : (p0 &&& (7 : Int32)) = po at hp
  try rw [hpo]
  show own_Go p e below T0 (mkF m 17 #[.val (.int v0), .val (.int s0), .val (.int p0), .val (.int f0), .val (.int vl), .val (.int po), .unset, .unset, .unset, .unset, .unset] []) _
  generalize hps : po.toNatClampNeg = ps at hp
  refine own_s_iloadN X0.here hx (hb hby at_17) rfl ?_
  refine own_s_i2b X0.here hx (hb hby at_18) ?_
  refine own_s_istore X0.here hx #[.val (.int v0), .val (.int s0), .val (.int p0), .val (.int f0), .val (.int vl), .val (.int po), .val (.int (f0.toInt8.toInt32)), .unset, .unset, .unset, .unset] (hb hby at_19) rfl ?_
  have hbi := own_idem f0
  generalize hbb : (f0.toInt8.toInt32) = bb
  show own_Go p e below T0 (mkF m 21 #[.val (.int v0), .val (.int s0), .val (.int p0), .val (.int f0), .val (.int vl), .val (.int po), .val (.int bb), .unset, .unset, .unset, .unset] []) _
  rw [hbb] at hbi
  refine own_s_bipush X0.here hx (13 : Int32) (hb hby at_21) rfl ?_
  obtain ⟨T44, h44, k44, X44, e44, E44, A44, st44⟩ := newP X0 hx hZ (hw _ (List.mem_of_getElem? (i := 1) rfl)) e0 (g := (mkF m 23 #[.val (.int v0), .val (.int s0), .val (.int p0), .val (.int f0), .val (.int vl), .val (.int po), .val (.int bb), .unset, .unset, .unset, .unset] [(.int (13 : Int32))])) rfl (hb hby at_23) rfl (by decide) (cap := 13) (by decide) (by decide) (by decide) (by decide)
  obtain ⟨b44, g44⟩ : ∃ z, z = h0.size := ⟨_, rfl⟩
  rw [← g44] at A44 st44
  have ge_b44 : n0 ≤ b44 := Nat.le_trans Z0 (Nat.le_of_eq g44.symm)
  have SZ44 : n0 ≤ h44.size := Nat.le_trans Z0 E44.1
  have f45 : own_Av Z h44 b44 .byte 13 (fun _ => (.int (0 : Int32))) := own_Av.ofnew A44 (by decide) rfl
  refine own_by st44 ?_
  show own_Go p e below T44 (mkF m 25 #[.val (.int v0), .val (.int s0), .val (.int p0), .val (.int f0), .val (.int vl), .val (.int po), .val (.int bb), .unset, .unset, .unset, .unset] [(.ref b44)]) _
  refine own_s_dup X44.here hx (hb hby at_25) rfl ?_
  refine own_s_iconst X44.here hx (0 : Int32) (hb hby at_26) rfl ?_
  refine own_s_iload X44.here hx (hb hby at_27) rfl ?_
  obtain ⟨T46, h46, X46, e46, W46, fa46, st46⟩ := own_stB X44 hx hZ e44 f45 (k := 0) (by decide) (by decide) (g := (mkF m 29 #[.val (.int v0), .val (.int s0), .val (.int p0), .val (.int f0), .val (.int vl), .val (.int po), .val (.int bb), .unset, .unset, .unset, .unset] [(.int bb), (.int (0 : Int32)), (.ref b44), (.ref b44)])) rfl rfl (hb hby at_29)
  have N46 := Fr.snoc X46 N0 ge_b44
  have SZ46 : n0 ≤ h46.size := by rw [W46.size]; exact SZ44
  refine own_by st46 ?_
  show own_Go p e below T46 (mkF m 30 #[.val (.int v0), .val (.int s0), .val (.int p0), .val (.int f0), .val (.int vl), .val (.int po), .val (.int bb), .unset, .unset, .unset, .unset] [(.ref b44)]) _
  refine own_s_dup X46.here hx (hb hby at_30) rfl ?_
  refine own_s_iconst X46.here hx (1 : Int32) (hb hby at_31) rfl ?_
  refine own_s_iload X46.here hx (hb hby at_32) rfl ?_
  obtain ⟨T47, h47, X47, e47, W47, fa47, st47⟩ := own_stB X46 hx hZ e46 fa46 (k := 1) (by decide) (by decide) (g := (mkF m 34 #[.val (.int v0), .val (.int s0), .val (.int p0), .val (.int f0), .val (.int vl), .val (.int po), .val (.int bb), .unset, .unset, .unset, .unset] [(.int bb), (.int (1 : Int32)), (.ref b44), (.ref b44)])) rfl rfl (hb hby at_34)
  have N47 := Fr.snoc X47 N46 ge_b44
  have SZ47 : n0 ≤ h47.size := by rw [W47.size]; exact SZ46
  refine own_by st47 ?_
  show own_Go p e below T47 (mkF m 35 #[.val (.int v0), .val (.int s0), .val (.int p0), .val (.int f0), .val (.int vl), .val (.int po), .val (.int bb), .unset, .unset, .unset, .unset] [(.ref b44)]) _
  refine own_s_dup X47.here hx (hb hby at_35) rfl ?_
  refine own_s_iconst X47.here hx (2 : Int32) (hb hby at_36) rfl ?_
  refine own_s_iload X47.here hx (hb hby at_37) rfl ?_
  obtain ⟨T48, h48, X48, e48, W48, fa48, st48⟩ := own_stB X47 hx hZ e47 fa47 (k := 2) (by decide) (by decide) (g := (mkF m 39 #[.val (.int v0), .val (.int s0), .val (.int p0), .val (.int f0), .val (.int vl), .val (.int po), .val (.int bb), .unset, .unset, .unset, .unset] [(.int bb), (.int (2 : Int32)), (.ref b44), (.ref b44)])) rfl rfl (hb hby at_39)
  have N48 := Fr.snoc X48 N47 ge_b44
  have SZ48 : n0 ≤ h48.size := by rw [W48.size]; exact SZ47
  refine own_by st48 ?_
  show own_Go p e below T48 (mkF m 40 #[.val (.int v0), .val (.int s0), .val (.int p0), .val (.int f0), .val (.int vl), .val (.int po), .val (.int bb), .unset, .unset, .unset, .unset] [(.ref b44)]) _
  refine own_s_dup X48.here hx (hb hby at_40) rfl ?_
  refine own_s_iconst X48.here hx (3 : Int32) (hb hby at_41) rfl ?_
  refine own_s_iload X48.here hx (hb hby at_42) rfl ?_
  obtain ⟨T49, h49, X49, e49, W49, fa49, st49⟩ := own_stB X48 hx hZ e48 fa48 (k := 3) (by decide) (by decide) (g := (mkF m 44 #[.val (.int v0), .val (.int s0), .val (.int p0), .val (.int f0), .val (.int vl), .val (.int po), .val (.int bb), .unset, .unset, .unset, .unset] [(.int bb), (.int (3 : Int32)), (.ref b44), (.ref b44)])) rfl rfl (hb hby at_44)
  have N49 := Fr.snoc X49 N48 ge_b44
  have SZ49 : n0 ≤ h49.size := by rw [W49.size]; exact SZ48
  refine own_by st49 ?_
  show own_Go p e below T49 (mkF m 45 #[.val (.int v0), .val (.int s0), .val (.int p0), .val (.int f0), .val (.int vl), .val (.int po), .val (.int bb), .unset, .unset, .unset, .unset] [(.ref b44)]) _
  refine own_s_dup X49.here hx (hb hby at_45) rfl ?_
  refine own_s_iconst X49.here hx (4 : Int32) (hb hby at_46) rfl ?_
  refine own_s_iload X49.here hx (hb hby at_47) rfl ?_
  obtain ⟨T50, h50, X50, e50, W50, fa50, st50⟩ := own_stB X49 hx hZ e49 fa49 (k := 4) (by decide) (by decide) (g := (mkF m 49 #[.val (.int v0), .val (.int s0), .val (.int p0), .val (.int f0), .val (.int vl), .val (.int po), .val (.int bb), .unset, .unset, .unset, .unset] [(.int bb), (.int (4 : Int32)), (.ref b44), (.ref b44)])) rfl rfl (hb hby at_49)
  have N50 := Fr.snoc X50 N49 ge_b44
  have SZ50 : n0 ≤ h50.size := by rw [W50.size]; exact SZ49
  refine own_by st50 ?_
  show own_Go p e below T50 (mkF m 50 #[.val (.int v0), .val (.int s0), .val (.int p0), .val (.int f0), .val (.int vl), .val (.int po), .val (.int bb), .unset, .unset, .unset, .unset] [(.ref b44)]) _
  refine own_s_dup X50.here hx (hb hby at_50) rfl ?_
  refine own_s_iconst X50.here hx (5 : Int32) (hb hby at_51) rfl ?_
  refine own_s_iload X50.here hx (hb hby at_52) rfl ?_
  obtain ⟨T51, h51, X51, e51, W51, fa51, st51⟩ := own_stB X50 hx hZ e50 fa50 (k := 5) (by decide) (by decide) (g := (mkF m 54 #[.val (.int v0), .val (.int s0), .val (.int p0), .val (.int f0), .val (.int vl), .val (.int po), .val (.int bb), .unset, .unset, .unset, .unset] [(.int bb), (.int (5 : Int32)), (.ref b44), (.ref b44)])) rfl rfl (hb hby at_54)
  have N51 := Fr.snoc X51 N50 ge_b44
  have SZ51 : n0 ≤ h51.size := by rw [W51.size]; exact SZ50
  refine own_by st51 ?_
  show own_Go p e below T51 (mkF m 55 #[.val (.int v0), .val (.int s0), .val (.int p0), .val (.int f0), .val (.int vl), .val (.int po), .val (.int bb), .unset, .unset, .unset, .unset] [(.ref b44)]) _
  refine own_s_dup X51.here hx (hb hby at_55) rfl ?_
  refine own_s_bipush X51.here hx (6 : Int32) (hb hby at_56) rfl ?_
  refine own_s_iload X51.here hx (hb hby at_58) rfl ?_
  obtain ⟨T52, h52, X52, e52, W52, fa52, st52⟩ := own_stB X51 hx hZ e51 fa51 (k := 6) (by decide) (by decide) (g := (mkF m 60 #[.val (.int v0), .val (.int s0), .val (.int p0), .val (.int f0), .val (.int vl), .val (.int po), .val (.int bb), .unset, .unset, .unset, .unset] [(.int bb), (.int (6 : Int32)), (.ref b44), (.ref b44)])) rfl rfl (hb hby at_60)
  have N52 := Fr.snoc X52 N51 ge_b44
  have SZ52 : n0 ≤ h52.size := by rw [W52.size]; exact SZ51
  refine own_by st52 ?_
  show own_Go p e below T52 (mkF m 61 #[.val (.int v0), .val (.int s0), .val (.int p0), .val (.int f0), .val (.int vl), .val (.int po), .val (.int bb), .unset, .unset, .unset, .unset] [(.ref b44)]) _
  refine own_s_dup X52.here hx (hb hby at_61) rfl ?_
  refine own_s_bipush X52.here hx (7 : Int32) (hb hby at_62) rfl ?_
  refine own_s_iload X52.here hx (hb hby at_64) rfl ?_
  obtain ⟨T53, h53, X53, e53, W53, fa53, st53⟩ := own_stB X52 hx hZ e52 fa52 (k := 7) (by decide) (by decide) (g := (mkF m 66 #[.val (.int v0), .val (.int s0), .val (.int p0), .val (.int f0), .val (.int vl), .val (.int po), .val (.int bb), .unset, .unset, .unset, .unset] [(.int bb), (.int (7 : Int32)), (.ref b44), (.ref b44)])) rfl rfl (hb hby at_66)
  have N53 := Fr.snoc X53 N52 ge_b44
  have SZ53 : n0 ≤ h53.size := by rw [W53.size]; exact SZ52
  refine own_by st53 ?_
  show own_Go p e below T53 (mkF m 67 #[.val (.int v0), .val (.int s0), .val (.int p0), .val (.int f0), .val (.int vl), .val (.int po), .val (.int bb), .unset, .unset, .unset, .unset] [(.ref b44)]) _
  refine own_s_dup X53.here hx (hb hby at_67) rfl ?_
  refine own_s_bipush X53.here hx (8 : Int32) (hb hby at_68) rfl ?_
  refine own_s_iload X53.here hx (hb hby at_70) rfl ?_
  obtain ⟨T54, h54, X54, e54, W54, fa54, st54⟩ := own_stB X53 hx hZ e53 fa53 (k := 8) (by decide) (by decide) (g := (mkF m 72 #[.val (.int v0), .val (.int s0), .val (.int p0), .val (.int f0), .val (.int vl), .val (.int po), .val (.int bb), .unset, .unset, .unset, .unset] [(.int bb), (.int (8 : Int32)), (.ref b44), (.ref b44)])) rfl rfl (hb hby at_72)
  have N54 := Fr.snoc X54 N53 ge_b44
  have SZ54 : n0 ≤ h54.size := by rw [W54.size]; exact SZ53
  refine own_by st54 ?_
  show own_Go p e below T54 (mkF m 73 #[.val (.int v0), .val (.int s0), .val (.int p0), .val (.int f0), .val (.int vl), .val (.int po), .val (.int bb), .unset, .unset, .unset, .unset] [(.ref b44)]) _
  refine own_s_dup X54.here hx (hb hby at_73) rfl ?_
  refine own_s_bipush X54.here hx (9 : Int32) (hb hby at_74) rfl ?_
  refine own_s_iload X54.here hx (hb hby at_76) rfl ?_
  obtain ⟨T55, h55, X55, e55, W55, fa55, st55⟩ := own_stB X54 hx hZ e54 fa54 (k := 9) (by decide) (by decide) (g := (mkF m 78 #[.val (.int v0), .val (.int s0), .val (.int p0), .val (.int f0), .val (.int vl), .val (.int po), .val (.int bb), .unset, .unset, .unset, .unset] [(.int bb), (.int (9 : Int32)), (.ref b44), (.ref b44)])) rfl rfl (hb hby at_78)
  have N55 := Fr.snoc X55 N54 ge_b44
  have SZ55 : n0 ≤ h55.size := by rw [W55.size]; exact SZ54
  refine own_by st55 ?_
  show own_Go p e below T55 (mkF m 79 #[.val (.int v0), .val (.int s0), .val (.int p0), .val (.int f0), .val (.int vl), .val (.int po), .val (.int bb), .unset, .unset, .unset, .unset] [(.ref b44)]) _
  refine own_s_dup X55.here hx (hb hby at_79) rfl ?_
  refine own_s_bipush X55.here hx (10 : Int32) (hb hby at_80) rfl ?_
  refine own_s_iload X55.here hx (hb hby at_82) rfl ?_
  obtain ⟨T56, h56, X56, e56, W56, fa56, st56⟩ := own_stB X55 hx hZ e55 fa55 (k := 10) (by decide) (by decide) (g := (mkF m 84 #[.val (.int v0), .val (.int s0), .val (.int p0), .val (.int f0), .val (.int vl), .val (.int po), .val (.int bb), .unset, .unset, .unset, .unset] [(.int bb), (.int (10 : Int32)), (.ref b44), (.ref b44)])) rfl rfl (hb hby at_84)
  have N56 := Fr.snoc X56 N55 ge_b44
  have SZ56 : n0 ≤ h56.size := by rw [W56.size]; exact SZ55
  refine own_by st56 ?_
  show own_Go p e below T56 (mkF m 85 #[.val (.int v0), .val (.int s0), .val (.int p0), .val (.int f0), .val (.int vl), .val (.int po), .val (.int bb), .unset, .unset, .unset, .unset] [(.ref b44)]) _
  refine own_s_dup X56.here hx (hb hby at_85) rfl ?_
  refine own_s_bipush X56.here hx (11 : Int32) (hb hby at_86) rfl ?_
  refine own_s_iload X56.here hx (hb hby at_88) rfl ?_
  obtain ⟨T57, h57, X57, e57, W57, fa57, st57⟩ := own_stB X56 hx hZ e56 fa56 (k := 11) (by decide) (by decide) (g := (mkF m 90 #[.val (.int v0), .val (.int s0), .val (.int p0), .val (.int f0), .val (.int vl), .val (.int po), .val (.int bb), .unset, .unset, .unset, .unset] [(.int bb), (.int (11 : Int32)), (.ref b44), (.ref b44)])) rfl rfl (hb hby at_90)
  have N57 := Fr.snoc X57 N56 ge_b44
  have SZ57 : n0 ≤ h57.size := by rw [W57.size]; exact SZ56
  refine own_by st57 ?_
  show own_Go p e below T57 (mkF m 91 #[.val (.int v0), .val (.int s0), .val (.int p0), .val (.int f0), .val (.int vl), .val (.int po), .val (.int bb), .unset, .unset, .unset, .unset] [(.ref b44)]) _
  refine own_s_dup X57.here hx (hb hby at_91) rfl ?_
  refine own_s_bipush X57.here hx (12 : Int32) (hb hby at_92) rfl ?_
  refine own_s_iload X57.here hx (hb hby at_94) rfl ?_
  obtain ⟨T58, h58, X58, e58, W58, fa58, st58⟩ := own_stB X57 hx hZ e57 fa57 (k := 12) (by decide) (by decide) (g := (mkF m 96 #[.val (.int v0), .val (.int s0), .val (.int p0), .val (.int f0), .val (.int vl), .val (.int po), .val (.int bb), .unset, .unset, .unset, .unset] [(.int bb), (.int (12 : Int32)), (.ref b44), (.ref b44)])) rfl rfl (hb hby at_96)
  have N58 := Fr.snoc X58 N57 ge_b44
  have SZ58 : n0 ≤ h58.size := by rw [W58.size]; exact SZ57
  refine own_by st58 ?_
  show own_Go p e below T58 (mkF m 97 #[.val (.int v0), .val (.int s0), .val (.int p0), .val (.int f0), .val (.int vl), .val (.int po), .val (.int bb), .unset, .unset, .unset, .unset] [(.ref b44)]) _
  have f59 : own_Av Z h58 b44 .byte 13 (fun _ => (.int bb)) := fa58.cong rfl (fun i hi => by
    match i, hi with
    | 0, _ => exact congrArg Value.int hbi
    | 1, _ => exact congrArg Value.int hbi
    | 2, _ => exact congrArg Value.int hbi
    | 3, _ => exact congrArg Value.int hbi
    | 4, _ => exact congrArg Value.int hbi
    | 5, _ => exact congrArg Value.int hbi
    | 6, _ => exact congrArg Value.int hbi
    | 7, _ => exact congrArg Value.int hbi
    | 8, _ => exact congrArg Value.int hbi
    | 9, _ => exact congrArg Value.int hbi
    | 10, _ => exact congrArg Value.int hbi
    | 11, _ => exact congrArg Value.int hbi
    | 12, _ => exact congrArg Value.int hbi)
  refine own_s_astore X58.here hx #[.val (.int v0), .val (.int s0), .val (.int p0), .val (.int f0), .val (.int vl), .val (.int po), .val (.int bb), .val (.ref b44), .unset, .unset, .unset] (hb hby at_97) rfl rfl ?_
  refine own_s_iload X58.here hx (hb hby at_99) rfl ?_
  refine own_s_sipush X58.here hx (128 : Int32) (hb hby at_101) rfl ?_
  by_cases hc104 : vl < (128 : Int32)
  ·
    refine own_s_icmpNo X58.here hx (hb hby at_104) (Jvm.Free.XT.ii_ge_f hc104) ?_
    refine own_s_iconst X58.here hx (1 : Int32) (hb hby at_107) rfl ?_
    refine own_s_istore X58.here hx #[.val (.int v0), .val (.int s0), .val (.int p0), .val (.int f0), .val (.int vl), .val (.int po), .val (.int bb), .val (.ref b44), .val (.int (1 : Int32)), .unset, .unset] (hb hby at_108) rfl ?_
    show own_Go p e below T58 (mkF m 110 #[.val (.int v0), .val (.int s0), .val (.int p0), .val (.int f0), .val (.int vl), .val (.int po), .val (.int bb), .val (.ref b44), .val (.int (1 : Int32)), .unset, .unset] []) _
    refine own_s_goto X58.here hx 156 (hb hby at_110) (by decide) (by decide) ?_
    refine own_s_iconst X58.here hx (5 : Int32) (hb hby at_156) rfl ?_
    obtain ⟨T60, h60, k60, X60, e60, E60, A60, st60⟩ := newP X58 hx hZ (hw _ (List.mem_of_getElem? (i := 1) rfl)) e58 (g := (mkF m 157 #[.val (.int v0), .val (.int s0), .val (.int p0), .val (.int f0), .val (.int vl), .val (.int po), .val (.int bb), .val (.ref b44), .val (.int (1 : Int32)), .unset, .unset] [(.int (5 : Int32))])) rfl (hb hby at_157) rfl (by decide) (cap := 5) (by decide) (by decide) (by decide) (by decide)
    obtain ⟨b60, g60⟩ : ∃ z, z = h58.size := ⟨_, rfl⟩
    rw [← g60] at A60 st60
    have ge_b60 : n0 ≤ b60 := Nat.le_trans SZ58 (Nat.le_of_eq g60.symm)
    have ne_b44_b60 : b44 ≠ b60 := Nat.ne_of_lt (Nat.lt_of_lt_of_le f59.lt (Nat.le_of_eq g60.symm))
    have f61 := f59.ext E60
    have SZ60 : n0 ≤ h60.size := Nat.le_trans SZ58 E60.1
    have f62 : own_Av Z h60 b60 .byte 5 (fun _ => (.int (0 : Int32))) := own_Av.ofnew A60 (by decide) rfl
    refine own_by st60 ?_
    show own_Go p e below T60 (mkF m 159 #[.val (.int v0), .val (.int s0), .val (.int p0), .val (.int f0), .val (.int vl), .val (.int po), .val (.int bb), .val (.ref b44), .val (.int (1 : Int32)), .unset, .unset] [(.ref b60)]) _
    refine own_s_astore X60.here hx #[.val (.int v0), .val (.int s0), .val (.int p0), .val (.int f0), .val (.int vl), .val (.int po), .val (.int bb), .val (.ref b44), .val (.int (1 : Int32)), .val (.ref b60), .unset] (hb hby at_159) rfl rfl ?_
    refine own_s_aload X60.here hx (hb hby at_161) rfl rfl ?_
    refine own_s_iconst X60.here hx (0 : Int32) (hb hby at_163) rfl ?_
    refine own_s_iload X60.here hx (hb hby at_164) rfl ?_
    refine own_s_bipush X60.here hx (127 : Int32) (hb hby at_166) rfl ?_
    refine own_s_iand X60.here hx (hb hby at_168) ?_
    refine own_s_iload X60.here hx (hb hby at_169) rfl ?_
    refine own_s_iconst X60.here hx (1 : Int32) (hb hby at_171) rfl ?_
    show own_Go p e below T60 (mkF m 172 #[.val (.int v0), .val (.int s0), .val (.int p0), .val (.int f0), .val (.int vl), .val (.int po), .val (.int bb), .val (.ref b44), .val (.int (1 : Int32)), .val (.ref b60), .unset] [(.int (1 : Int32)), (.int (1 : Int32)), (.int (vl &&& (127 : Int32))), (.int (0 : Int32)), (.ref b60)]) _
    refine own_s_icmpYes X60.here hx 181 (hb hby at_172) (Jvm.Free.XT.ii_le_t ((by decide))) (by decide) (by decide) ?_
    refine own_s_iconst X60.here hx (0 : Int32) (hb hby at_181) rfl ?_
    refine own_s_ior X60.here hx (hb hby at_182) ?_
    refine own_s_i2b X60.here hx (hb hby at_183) ?_
    obtain ⟨T63, h63, X63, e63, W63, fa63, st63⟩ := own_stB X60 hx hZ e60 f62 (k := 0) (by decide) (by decide) (g := (mkF m 184 #[.val (.int v0), .val (.int s0), .val (.int p0), .val (.int f0), .val (.int vl), .val (.int po), .val (.int bb), .val (.ref b44), .val (.int (1 : Int32)), .val (.ref b60), .unset] [(.int (((vl &&& (127 : Int32)) ||| (0 : Int32)).toInt8.toInt32)), (.int (0 : Int32)), (.ref b60)])) rfl rfl (hb hby at_184)
    have f64 := f61.other W63 ne_b44_b60
    have N63 := Fr.snoc X63 N58 ge_b60
    have SZ63 : n0 ≤ h63.size := by rw [W63.size]; exact SZ60
    refine own_by st63 ?_
    show own_Go p e below T63 (mkF m 185 #[.val (.int v0), .val (.int s0), .val (.int p0), .val (.int f0), .val (.int vl), .val (.int po), .val (.int bb), .val (.ref b44), .val (.int (1 : Int32)), .val (.ref b60), .unset] []) _
    refine own_s_aload X63.here hx (hb hby at_185) rfl rfl ?_
    refine own_s_iconst X63.here hx (1 : Int32) (hb hby at_187) rfl ?_
    refine own_s_iload X63.here hx (hb hby at_188) rfl ?_
    refine own_s_bipush X63.here hx (7 : Int32) (hb hby at_190) rfl ?_
    refine own_s_iushr X63.here hx (hb hby at_192) ?_
    refine own_s_bipush X63.here hx (127 : Int32) (hb hby at_193) rfl ?_
    refine own_s_iand X63.here hx (hb hby at_195) ?_
    refine own_s_iload X63.here hx (hb hby at_196) rfl ?_
    refine own_s_iconst X63.here hx (2 : Int32) (hb hby at_198) rfl ?_
    show own_Go p e below T63 (mkF m 199 #[.val (.int v0), .val (.int s0), .val (.int p0), .val (.int f0), .val (.int vl), .val (.int po), .val (.int bb), .val (.ref b44), .val (.int (1 : Int32)), .val (.ref b60), .unset] [(.int (2 : Int32)), (.int (1 : Int32)), (.int (((vl.toUInt32 >>> ((7 : Int32) &&& 31).toUInt32).toInt32) &&& (127 : Int32))), (.int (1 : Int32)), (.ref b60)]) _
    refine own_s_icmpYes X63.here hx 208 (hb hby at_199) (Jvm.Free.XT.ii_le_t ((by decide))) (by decide) (by decide) ?_
    refine own_s_iconst X63.here hx (0 : Int32) (hb hby at_208) rfl ?_
    refine own_s_ior X63.here hx (hb hby at_209) ?_
    refine own_s_i2b X63.here hx (hb hby at_210) ?_
    obtain ⟨T65, h65, X65, e65, W65, fa65, st65⟩ := own_stB X63 hx hZ e63 fa63 (k := 1) (by decide) (by decide) (g := (mkF m 211 #[.val (.int v0), .val (.int s0), .val (.int p0), .val (.int f0), .val (.int vl), .val (.int po), .val (.int bb), .val (.ref b44), .val (.int (1 : Int32)), .val (.ref b60), .unset] [(.int (((((vl.toUInt32 >>> ((7 : Int32) &&& 31).toUInt32).toInt32) &&& (127 : Int32)) ||| (0 : Int32)).toInt8.toInt32)), (.int (1 : Int32)), (.ref b60)])) rfl rfl (hb hby at_211)
    have f66 := f64.other W65 ne_b44_b60
    have N65 := Fr.snoc X65 N63 ge_b60
    have SZ65 : n0 ≤ h65.size := by rw [W65.size]; exact SZ63
    refine own_by st65 ?_
    show own_Go p e below T65 (mkF m 212 #[.val (.int v0), .val (.int s0), .val (.int p0), .val (.int f0), .val (.int vl), .val (.int po), .val (.int bb), .val (.ref b44), .val (.int (1 : Int32)), .val (.ref b60), .unset] []) _
    refine own_s_aload X65.here hx (hb hby at_212) rfl rfl ?_
    refine own_s_iconst X65.here hx (2 : Int32) (hb hby at_214) rfl ?_
    refine own_s_iload X65.here hx (hb hby at_215) rfl ?_
    refine own_s_bipush X65.here hx (14 : Int32) (hb hby at_217) rfl ?_
    refine own_s_iushr X65.here hx (hb hby at_219) ?_
    refine own_s_bipush X65.here hx (127 : Int32) (hb hby at_220) rfl ?_
    refine own_s_iand X65.here hx (hb hby at_222) ?_
    refine own_s_iload X65.here hx (hb hby at_223) rfl ?_
    refine own_s_iconst X65.here hx (3 : Int32) (hb hby at_225) rfl ?_
    show own_Go p e below T65 (mkF m 226 #[.val (.int v0), .val (.int s0), .val (.int p0), .val (.int f0), .val (.int vl), .val (.int po), .val (.int bb), .val (.ref b44), .val (.int (1 : Int32)), .val (.ref b60), .unset] [(.int (3 : Int32)), (.int (1 : Int32)), (.int (((vl.toUInt32 >>> ((14 : Int32) &&& 31).toUInt32).toInt32) &&& (127 : Int32))), (.int (2 : Int32)), (.ref b60)]) _
    refine own_s_icmpYes X65.here hx 235 (hb hby at_226) (Jvm.Free.XT.ii_le_t ((by decide))) (by decide) (by decide) ?_
    refine own_s_iconst X65.here hx (0 : Int32) (hb hby at_235) rfl ?_
    refine own_s_ior X65.here hx (hb hby at_236) ?_
    refine own_s_i2b X65.here hx (hb hby at_237) ?_
    obtain ⟨T67, h67, X67, e67, W67, fa67, st67⟩ := own_stB X65 hx hZ e65 fa65 (k := 2) (by decide) (by decide) (g := (mkF m 238 #[.val (.int v0), .val (.int s0), .val (.int p0), .val (.int f0), .val (.int vl), .val (.int po), .val (.int bb), .val (.ref b44), .val (.int (1 : Int32)), .val (.ref b60), .unset] [(.int (((((vl.toUInt32 >>> ((14 : Int32) &&& 31).toUInt32).toInt32) &&& (127 : Int32)) ||| (0 : Int32)).toInt8.toInt32)), (.int (2 : Int32)), (.ref b60)])) rfl rfl (hb hby at_238)
    have f68 := f66.other W67 ne_b44_b60
    have N67 := Fr.snoc X67 N65 ge_b60
    have SZ67 : n0 ≤ h67.size := by rw [W67.size]; exact SZ65
    refine own_by st67 ?_
    show own_Go p e below T67 (mkF m 239 #[.val (.int v0), .val (.int s0), .val (.int p0), .val (.int f0), .val (.int vl), .val (.int po), .val (.int bb), .val (.ref b44), .val (.int (1 : Int32)), .val (.ref b60), .unset] []) _
    refine own_s_aload X67.here hx (hb hby at_239) rfl rfl ?_
    refine own_s_iconst X67.here hx (3 : Int32) (hb hby at_241) rfl ?_
    refine own_s_iload X67.here hx (hb hby at_242) rfl ?_
    refine own_s_bipush X67.here hx (21 : Int32) (hb hby at_244) rfl ?_
    refine own_s_iushr X67.here hx (hb hby at_246) ?_
    refine own_s_bipush X67.here hx (127 : Int32) (hb hby at_247) rfl ?_
    refine own_s_iand X67.here hx (hb hby at_249) ?_
    refine own_s_iload X67.here hx (hb hby at_250) rfl ?_
    refine own_s_iconst X67.here hx (4 : Int32) (hb hby at_252) rfl ?_
    show own_Go p e below T67 (mkF m 253 #[.val (.int v0), .val (.int s0), .val (.int p0), .val (.int f0), .val (.int vl), .val (.int po), .val (.int bb), .val (.ref b44), .val (.int (1 : Int32)), .val (.ref b60), .unset] [(.int (4 : Int32)), (.int (1 : Int32)), (.int (((vl.toUInt32 >>> ((21 : Int32) &&& 31).toUInt32).toInt32) &&& (127 : Int32))), (.int (3 : Int32)), (.ref b60)]) _
    refine own_s_icmpYes X67.here hx 262 (hb hby at_253) (Jvm.Free.XT.ii_le_t ((by decide))) (by decide) (by decide) ?_
    refine own_s_iconst X67.here hx (0 : Int32) (hb hby at_262) rfl ?_
    refine own_s_ior X67.here hx (hb hby at_263) ?_
    refine own_s_i2b X67.here hx (hb hby at_264) ?_
    obtain ⟨T69, h69, X69, e69, W69, fa69, st69⟩ := own_stB X67 hx hZ e67 fa67 (k := 3) (by decide) (by decide) (g := (mkF m 265 #[.val (.int v0), .val (.int s0), .val (.int p0), .val (.int f0), .val (.int vl), .val (.int po), .val (.int bb), .val (.ref b44), .val (.int (1 : Int32)), .val (.ref b60), .unset] [(.int (((((vl.toUInt32 >>> ((21 : Int32) &&& 31).toUInt32).toInt32) &&& (127 : Int32)) ||| (0 : Int32)).toInt8.toInt32)), (.int (3 : Int32)), (.ref b60)])) rfl rfl (hb hby at_265)
    have f70 := f68.other W69 ne_b44_b60
    have N69 := Fr.snoc X69 N67 ge_b60
    have SZ69 : n0 ≤ h69.size := by rw [W69.size]; exact SZ67
    refine own_by st69 ?_
    show own_Go p e below T69 (mkF m 266 #[.val (.int v0), .val (.int s0), .val (.int p0), .val (.int f0), .val (.int vl), .val (.int po), .val (.int bb), .val (.ref b44), .val (.int (1 : Int32)), .val (.ref b60), .unset] []) _
    refine own_s_aload X69.here hx (hb hby at_266) rfl rfl ?_
    refine own_s_iconst X69.here hx (4 : Int32) (hb hby at_268) rfl ?_
    refine own_s_iload X69.here hx (hb hby at_269) rfl ?_
    refine own_s_bipush X69.here hx (28 : Int32) (hb hby at_271) rfl ?_
    refine own_s_iushr X69.here hx (hb hby at_273) ?_
    refine own_s_i2b X69.here hx (hb hby at_274) ?_
    obtain ⟨T71, h71, X71, e71, W71, fa71, st71⟩ := own_stB X69 hx hZ e69 fa69 (k := 4) (by decide) (by decide) (g := (mkF m 275 #[.val (.int v0), .val (.int s0), .val (.int p0), .val (.int f0), .val (.int vl), .val (.int po), .val (.int bb), .val (.ref b44), .val (.int (1 : Int32)), .val (.ref b60), .unset] [(.int (((vl.toUInt32 >>> ((28 : Int32) &&& 31).toUInt32).toInt32).toInt8.toInt32)), (.int (4 : Int32)), (.ref b60)])) rfl rfl (hb hby at_275)
    have f72 := f70.other W71 ne_b44_b60
    have N71 := Fr.snoc X71 N69 ge_b60
    have SZ71 : n0 ≤ h71.size := by rw [W71.size]; exact SZ69
    refine own_by st71 ?_
    show own_Go p e below T71 (mkF m 276 #[.val (.int v0), .val (.int s0), .val (.int p0), .val (.int f0), .val (.int vl), .val (.int po), .val (.int bb), .val (.ref b44), .val (.int (1 : Int32)), .val (.ref b60), .unset] []) _
    have f73 : own_Av Z h71 b60 .byte 5 (fun i => .int ((own_b5 ((((vl &&& (127 : Int32)) ||| (0 : Int32)).toInt8.toInt32).toInt8.toInt32) ((((((vl.toUInt32 >>> ((7 : Int32) &&& 31).toUInt32).toInt32) &&& (127 : Int32)) ||| (0 : Int32)).toInt8.toInt32).toInt8.toInt32) ((((((vl.toUInt32 >>> ((14 : Int32) &&& 31).toUInt32).toInt32) &&& (127 : Int32)) ||| (0 : Int32)).toInt8.toInt32).toInt8.toInt32) ((((((vl.toUInt32 >>> ((21 : Int32) &&& 31).toUInt32).toInt32) &&& (127 : Int32)) ||| (0 : Int32)).toInt8.toInt32).toInt8.toInt32) ((((vl.toUInt32 >>> ((28 : Int32) &&& 31).toUInt32).toInt32).toInt8.toInt32).toInt8.toInt32)) i)) := fa71.cong rfl (fun i hi => by
      match i, hi with
      | 0, _ => rfl
      | 1, _ => rfl
      | 2, _ => rfl
      | 3, _ => rfl
      | 4, _ => rfl)
    have z1 := own_cond vl hvb
    have z2 := own_cond _ z1.1
    have z3 := own_cond _ z2.1
    have z4 := own_cond _ z3.1
    simp only [Int32.lt_iff_toInt_lt, show (128 : Int32).toInt = 128 from by decide, show (16384 : Int32).toInt = 16384 from by decide, show (2097152 : Int32).toInt = 2097152 from by decide, show (268435456 : Int32).toInt = 268435456 from by decide] at hc104
    have hub := vl.toInt_lt
    have hl0 := own_lo vl hvb (by omega)
    have he0 : (own_b5 ((((vl &&& (127 : Int32)) ||| (0 : Int32)).toInt8.toInt32).toInt8.toInt32) ((((((vl.toUInt32 >>> ((7 : Int32) &&& 31).toUInt32).toInt32) &&& (127 : Int32)) ||| (0 : Int32)).toInt8.toInt32).toInt8.toInt32) ((((((vl.toUInt32 >>> ((14 : Int32) &&& 31).toUInt32).toInt32) &&& (127 : Int32)) ||| (0 : Int32)).toInt8.toInt32).toInt8.toInt32) ((((((vl.toUInt32 >>> ((21 : Int32) &&& 31).toUInt32).toInt32) &&& (127 : Int32)) ||| (0 : Int32)).toInt8.toInt32).toInt8.toInt32) ((((vl.toUInt32 >>> ((28 : Int32) &&& 31).toUInt32).toInt32).toInt8.toInt32).toInt8.toInt32)) 0 = (own_by8 vl) := by
      exact own_byx _ _ hl0
    refine own_s_aload X71.here hx (hb hby at_276) rfl rfl ?_
    refine own_s_iload X71.here hx (hb hby at_278) rfl ?_
    refine own_s_iload X71.here hx (hb hby at_280) rfl ?_
    obtain ⟨_, _, ⟨T74, L74, k74, n74⟩, -, X74, ⟨Lc74, hQ74, l74, y74, z74⟩, st74⟩ := Jvm.LawKit.callS X71 hx (y := (⟨"com/example/fold_time/foldtime/model/ByteWriter", "putVarint", "([BII)I"⟩ : MethodName)) hown (mvT hZ (hw _ (List.mem_of_getElem? (i := 2) rfl))) (mvT hZ (hw _ (List.mem_of_getElem? (i := 3) rfl))) (mvT hZ (hw _ (List.mem_of_getElem? (i := 4) rfl))) (mvT hZ (hw _ (List.mem_of_getElem? (i := 5) rfl))) (by decide) (backOf (W := 0) (own_pv1 l Z a0 hw [] b44 po vl ps (fun _ => (.int bb)) h71 n0 SZ71 hp.1 (by omega) ((own_mk _ hvb).mpr (by omega)) f72 ge_b44) hZ (hw _ (List.mem_of_getElem? (i := 5) rfl)) (hw _ (List.mem_of_getElem? (i := 4) rfl)) (by decide) (by decide)) (g := (mkF m 282 #[.val (.int v0), .val (.int s0), .val (.int p0), .val (.int f0), .val (.int vl), .val (.int po), .val (.int bb), .val (.ref b44), .val (.int (1 : Int32)), .val (.ref b60), .unset] [(.int vl), (.int po), (.ref b44)])) rfl (by rw [hml]; rfl) (argsL := [(.ref b44), (.int po), (.int vl)]) (rest := []) (lenOf own_pd_0 rfl) rfl (by show 2 * 0 + _ ≤ _; exact Nat.le_of_eq rfl) (hb hby at_282) (fun _ _ => ⟨rfl, e71, (by decide : 2 + 0 ≤ _), (by decide : 18 + 0 ≤ _)⟩)
    dsimp only [Pt.U, Pt.locs, Pt.cells, Pt.slots] at X74 l74 y74 z74 st74 hQ74
    subst l74 y74 z74
    obtain ⟨rfl, N74q, K74, fa74⟩ := hQ74
    have N74 := Fr.app N71 N74q
    have f75 := f73.keep K74 (ninS (Ne.symm ne_b44_b60) nin0)
    have SZ74 : n0 ≤ T74.heap.size := Nat.le_trans SZ71 K74.1
    refine own_by st74 ?_
    show own_Go p e below T74 (mkF m 285 #[.val (.int v0), .val (.int s0), .val (.int p0), .val (.int f0), .val (.int vl), .val (.int po), .val (.int bb), .val (.ref b44), .val (.int (1 : Int32)), .val (.ref b60), .unset] [(.int (po + (1 : Int32)))]) _
    have f76 := fa74.cong rfl (own_tfs1 vl bb ps (own_b5 ((((vl &&& (127 : Int32)) ||| (0 : Int32)).toInt8.toInt32).toInt8.toInt32) ((((((vl.toUInt32 >>> ((7 : Int32) &&& 31).toUInt32).toInt32) &&& (127 : Int32)) ||| (0 : Int32)).toInt8.toInt32).toInt8.toInt32) ((((((vl.toUInt32 >>> ((14 : Int32) &&& 31).toUInt32).toInt32) &&& (127 : Int32)) ||| (0 : Int32)).toInt8.toInt32).toInt8.toInt32) ((((((vl.toUInt32 >>> ((21 : Int32) &&& 31).toUInt32).toInt32) &&& (127 : Int32)) ||| (0 : Int32)).toInt8.toInt32).toInt8.toInt32) ((((vl.toUInt32 >>> ((28 : Int32) &&& 31).toUInt32).toInt32).toInt8.toInt32).toInt8.toInt32)) he0)
    exact own_p285 hx hZ hw hby hml hown hnm hret hlk  v0 s0 p0 f0 vl po bb (1 : Int32) (po + (1 : Int32)) b44 b60 ps 1 (own_b5 ((((vl &&& (127 : Int32)) ||| (0 : Int32)).toInt8.toInt32).toInt8.toInt32) ((((((vl.toUInt32 >>> ((7 : Int32) &&& 31).toUInt32).toInt32) &&& (127 : Int32)) ||| (0 : Int32)).toInt8.toInt32).toInt8.toInt32) ((((((vl.toUInt32 >>> ((14 : Int32) &&& 31).toUInt32).toInt32) &&& (127 : Int32)) ||| (0 : Int32)).toInt8.toInt32).toInt8.toInt32) ((((((vl.toUInt32 >>> ((21 : Int32) &&& 31).toUInt32).toInt32) &&& (127 : Int32)) ||| (0 : Int32)).toInt8.toInt32).toInt8.toInt32) ((((vl.toUInt32 >>> ((28 : Int32) &&& 31).toUInt32).toInt32).toInt8.toInt32).toInt8.toInt32)) X74 rfl N74 SZ74 (own_px1 po) hp.1 (by decide) hp.2 (by decide) f76 f75
  ·
    show own_Go p e below T58 (mkF m 104 #[.val (.int v0), .val (.int s0), .val (.int p0), .val (.int f0), .val (.int vl), .val (.int po), .val (.int bb), .val (.ref b44), .unset, .unset, .unset] [(.int (128 : Int32)), (.int vl)]) _
    refine own_s_icmpYes X58.here hx 113 (hb hby at_104) (Jvm.Free.XT.ii_ge_t hc104) (by decide) (by decide) ?_
    refine own_s_iload X58.here hx (hb hby at_113) rfl ?_
    refine own_s_sipush X58.here hx (16384 : Int32) (hb hby at_115) rfl ?_
    by_cases hc118 : vl < (16384 : Int32)
    ·
      refine own_s_icmpNo X58.here hx (hb hby at_118) (Jvm.Free.XT.ii_ge_f hc118) ?_
      refine own_s_iconst X58.here hx (2 : Int32) (hb hby at_121) rfl ?_
      refine own_s_istore X58.here hx #[.val (.int v0), .val (.int s0), .val (.int p0), .val (.int f0), .val (.int vl), .val (.int po), .val (.int bb), .val (.ref b44), .val (.int (2 : Int32)), .unset, .unset] (hb hby at_122) rfl ?_
      show own_Go p e below T58 (mkF m 124 #[.val (.int v0), .val (.int s0), .val (.int p0), .val (.int f0), .val (.int vl), .val (.int po), .val (.int bb), .val (.ref b44), .val (.int (2 : Int32)), .unset, .unset] []) _
      refine own_s_goto X58.here hx 156 (hb hby at_124) (by decide) (by decide) ?_
      refine own_s_iconst X58.here hx (5 : Int32) (hb hby at_156) rfl ?_
      obtain ⟨T77, h77, k77, X77, e77, E77, A77, st77⟩ := newP X58 hx hZ (hw _ (List.mem_of_getElem? (i := 1) rfl)) e58 (g := (mkF m 157 #[.val (.int v0), .val (.int s0), .val (.int p0), .val (.int f0), .val (.int vl), .val (.int po), .val (.int bb), .val (.ref b44), .val (.int (2 : Int32)), .unset, .unset] [(.int (5 : Int32))])) rfl (hb hby at_157) rfl (by decide) (cap := 5) (by decide) (by decide) (by decide) (by decide)
      obtain ⟨b77, g77⟩ : ∃ z, z = h58.size := ⟨_, rfl⟩
      rw [← g77] at A77 st77
      have ge_b77 : n0 ≤ b77 := Nat.le_trans SZ58 (Nat.le_of_eq g77.symm)
      have ne_b44_b77 : b44 ≠ b77 := Nat.ne_of_lt (Nat.lt_of_lt_of_le f59.lt (Nat.le_of_eq g77.symm))
      have f78 := f59.ext E77
      have SZ77 : n0 ≤ h77.size := Nat.le_trans SZ58 E77.1
      have f79 : own_Av Z h77 b77 .byte 5 (fun _ => (.int (0 : Int32))) := own_Av.ofnew A77 (by decide) rfl
      refine own_by st77 ?_
      show own_Go p e below T77 (mkF m 159 #[.val (.int v0), .val (.int s0), .val (.int p0), .val (.int f0), .val (.int vl), .val (.int po), .val (.int bb), .val (.ref b44), .val (.int (2 : Int32)), .unset, .unset] [(.ref b77)]) _
      refine own_s_astore X77.here hx #[.val (.int v0), .val (.int s0), .val (.int p0), .val (.int f0), .val (.int vl), .val (.int po), .val (.int bb), .val (.ref b44), .val (.int (2 : Int32)), .val (.ref b77), .unset] (hb hby at_159) rfl rfl ?_
      refine own_s_aload X77.here hx (hb hby at_161) rfl rfl ?_
      refine own_s_iconst X77.here hx (0 : Int32) (hb hby at_163) rfl ?_
      refine own_s_iload X77.here hx (hb hby at_164) rfl ?_
      refine own_s_bipush X77.here hx (127 : Int32) (hb hby at_166) rfl ?_
      refine own_s_iand X77.here hx (hb hby at_168) ?_
      refine own_s_iload X77.here hx (hb hby at_169) rfl ?_
      refine own_s_iconst X77.here hx (1 : Int32) (hb hby at_171) rfl ?_
      refine own_s_icmpNo X77.here hx (hb hby at_172) (Jvm.Free.XT.ii_le_f ((by decide))) ?_
      refine own_s_sipush X77.here hx (128 : Int32) (hb hby at_175) rfl ?_
      show own_Go p e below T77 (mkF m 178 #[.val (.int v0), .val (.int s0), .val (.int p0), .val (.int f0), .val (.int vl), .val (.int po), .val (.int bb), .val (.ref b44), .val (.int (2 : Int32)), .val (.ref b77), .unset] [(.int (128 : Int32)), (.int (vl &&& (127 : Int32))), (.int (0 : Int32)), (.ref b77)]) _
      refine own_s_goto X77.here hx 182 (hb hby at_178) (by decide) (by decide) ?_
      refine own_s_ior X77.here hx (hb hby at_182) ?_
      refine own_s_i2b X77.here hx (hb hby at_183) ?_
      obtain ⟨T80, h80, X80, e80, W80, fa80, st80⟩ := own_stB X77 hx hZ e77 f79 (k := 0) (by decide) (by decide) (g := (mkF m 184 #[.val (.int v0), .val (.int s0), .val (.int p0), .val (.int f0), .val (.int vl), .val (.int po), .val (.int bb), .val (.ref b44), .val (.int (2 : Int32)), .val (.ref b77), .unset] [(.int (((vl &&& (127 : Int32)) ||| (128 : Int32)).toInt8.toInt32)), (.int (0 : Int32)), (.ref b77)])) rfl rfl (hb hby at_184)
      have f81 := f78.other W80 ne_b44_b77
      have N80 := Fr.snoc X80 N58 ge_b77
      have SZ80 : n0 ≤ h80.size := by rw [W80.size]; exact SZ77
      refine own_by st80 ?_
      show own_Go p e below T80 (mkF m 185 #[.val (.int v0), .val (.int s0), .val (.int p0), .val (.int f0), .val (.int vl), .val (.int po), .val (.int bb), .val (.ref b44), .val (.int (2 : Int32)), .val (.ref b77), .unset] []) _
      refine own_s_aload X80.here hx (hb hby at_185) rfl rfl ?_
      refine own_s_iconst X80.here hx (1 : Int32) (hb hby at_187) rfl ?_
      refine own_s_iload X80.here hx (hb hby at_188) rfl ?_
      refine own_s_bipush X80.here hx (7 : Int32) (hb hby at_190) rfl ?_
      refine own_s_iushr X80.here hx (hb hby at_192) ?_
      refine own_s_bipush X80.here hx (127 : Int32) (hb hby at_193) rfl ?_
      refine own_s_iand X80.here hx (hb hby at_195) ?_
      refine own_s_iload X80.here hx (hb hby at_196) rfl ?_
      refine own_s_iconst X80.here hx (2 : Int32) (hb hby at_198) rfl ?_
      show own_Go p e below T80 (mkF m 199 #[.val (.int v0), .val (.int s0), .val (.int p0), .val (.int f0), .val (.int vl), .val (.int po), .val (.int bb), .val (.ref b44), .val (.int (2 : Int32)), .val (.ref b77), .unset] [(.int (2 : Int32)), (.int (2 : Int32)), (.int (((vl.toUInt32 >>> ((7 : Int32) &&& 31).toUInt32).toInt32) &&& (127 : Int32))), (.int (1 : Int32)), (.ref b77)]) _
      refine own_s_icmpYes X80.here hx 208 (hb hby at_199) (Jvm.Free.XT.ii_le_t ((by decide))) (by decide) (by decide) ?_
      refine own_s_iconst X80.here hx (0 : Int32) (hb hby at_208) rfl ?_
      refine own_s_ior X80.here hx (hb hby at_209) ?_
      refine own_s_i2b X80.here hx (hb hby at_210) ?_
      obtain ⟨T82, h82, X82, e82, W82, fa82, st82⟩ := own_stB X80 hx hZ e80 fa80 (k := 1) (by decide) (by decide) (g := (mkF m 211 #[.val (.int v0), .val (.int s0), .val (.int p0), .val (.int f0), .val (.int vl), .val (.int po), .val (.int bb), .val (.ref b44), .val (.int (2 : Int32)), .val (.ref b77), .unset] [(.int (((((vl.toUInt32 >>> ((7 : Int32) &&& 31).toUInt32).toInt32) &&& (127 : Int32)) ||| (0 : Int32)).toInt8.toInt32)), (.int (1 : Int32)), (.ref b77)])) rfl rfl (hb hby at_211)
      have f83 := f81.other W82 ne_b44_b77
      have N82 := Fr.snoc X82 N80 ge_b77
      have SZ82 : n0 ≤ h82.size := by rw [W82.size]; exact SZ80
      refine own_by st82 ?_
      show own_Go p e below T82 (mkF m 212 #[.val (.int v0), .val (.int s0), .val (.int p0), .val (.int f0), .val (.int vl), .val (.int po), .val (.int bb), .val (.ref b44), .val (.int (2 : Int32)), .val (.ref b77), .unset] []) _
      refine own_s_aload X82.here hx (hb hby at_212) rfl rfl ?_
      refine own_s_iconst X82.here hx (2 : Int32) (hb hby at_214) rfl ?_
      refine own_s_iload X82.here hx (hb hby at_215) rfl ?_
      refine own_s_bipush X82.here hx (14 : Int32) (hb hby at_217) rfl ?_
      refine own_s_iushr X82.here hx (hb hby at_219) ?_
      refine own_s_bipush X82.here hx (127 : Int32) (hb hby at_220) rfl ?_
      refine own_s_iand X82.here hx (hb hby at_222) ?_
      refine own_s_iload X82.here hx (hb hby at_223) rfl ?_
      refine own_s_iconst X82.here hx (3 : Int32) (hb hby at_225) rfl ?_
      show own_Go p e below T82 (mkF m 226 #[.val (.int v0), .val (.int s0), .val (.int p0), .val (.int f0), .val (.int vl), .val (.int po), .val (.int bb), .val (.ref b44), .val (.int (2 : Int32)), .val (.ref b77), .unset] [(.int (3 : Int32)), (.int (2 : Int32)), (.int (((vl.toUInt32 >>> ((14 : Int32) &&& 31).toUInt32).toInt32) &&& (127 : Int32))), (.int (2 : Int32)), (.ref b77)]) _
      refine own_s_icmpYes X82.here hx 235 (hb hby at_226) (Jvm.Free.XT.ii_le_t ((by decide))) (by decide) (by decide) ?_
      refine own_s_iconst X82.here hx (0 : Int32) (hb hby at_235) rfl ?_
      refine own_s_ior X82.here hx (hb hby at_236) ?_
      refine own_s_i2b X82.here hx (hb hby at_237) ?_
      obtain ⟨T84, h84, X84, e84, W84, fa84, st84⟩ := own_stB X82 hx hZ e82 fa82 (k := 2) (by decide) (by decide) (g := (mkF m 238 #[.val (.int v0), .val (.int s0), .val (.int p0), .val (.int f0), .val (.int vl), .val (.int po), .val (.int bb), .val (.ref b44), .val (.int (2 : Int32)), .val (.ref b77), .unset] [(.int (((((vl.toUInt32 >>> ((14 : Int32) &&& 31).toUInt32).toInt32) &&& (127 : Int32)) ||| (0 : Int32)).toInt8.toInt32)), (.int (2 : Int32)), (.ref b77)])) rfl rfl (hb hby at_238)
      have f85 := f83.other W84 ne_b44_b77
      have N84 := Fr.snoc X84 N82 ge_b77
      have SZ84 : n0 ≤ h84.size := by rw [W84.size]; exact SZ82
      refine own_by st84 ?_
      show own_Go p e below T84 (mkF m 239 #[.val (.int v0), .val (.int s0), .val (.int p0), .val (.int f0), .val (.int vl), .val (.int po), .val (.int bb), .val (.ref b44), .val (.int (2 : Int32)), .val (.ref b77), .unset] []) _
      refine own_s_aload X84.here hx (hb hby at_239) rfl rfl ?_
      refine own_s_iconst X84.here hx (3 : Int32) (hb hby at_241) rfl ?_
      refine own_s_iload X84.here hx (hb hby at_242) rfl ?_
      refine own_s_bipush X84.here hx (21 : Int32) (hb hby at_244) rfl ?_
      refine own_s_iushr X84.here hx (hb hby at_246) ?_
      refine own_s_bipush X84.here hx (127 : Int32) (hb hby at_247) rfl ?_
      refine own_s_iand X84.here hx (hb hby at_249) ?_
      refine own_s_iload X84.here hx (hb hby at_250) rfl ?_
      refine own_s_iconst X84.here hx (4 : Int32) (hb hby at_252) rfl ?_
      show own_Go p e below T84 (mkF m 253 #[.val (.int v0), .val (.int s0), .val (.int p0), .val (.int f0), .val (.int vl), .val (.int po), .val (.int bb), .val (.ref b44), .val (.int (2 : Int32)), .val (.ref b77), .unset] [(.int (4 : Int32)), (.int (2 : Int32)), (.int (((vl.toUInt32 >>> ((21 : Int32) &&& 31).toUInt32).toInt32) &&& (127 : Int32))), (.int (3 : Int32)), (.ref b77)]) _
      refine own_s_icmpYes X84.here hx 262 (hb hby at_253) (Jvm.Free.XT.ii_le_t ((by decide))) (by decide) (by decide) ?_
      refine own_s_iconst X84.here hx (0 : Int32) (hb hby at_262) rfl ?_
      refine own_s_ior X84.here hx (hb hby at_263) ?_
      refine own_s_i2b X84.here hx (hb hby at_264) ?_
      obtain ⟨T86, h86, X86, e86, W86, fa86, st86⟩ := own_stB X84 hx hZ e84 fa84 (k := 3) (by decide) (by decide) (g := (mkF m 265 #[.val (.int v0), .val (.int s0), .val (.int p0), .val (.int f0), .val (.int vl), .val (.int po), .val (.int bb), .val (.ref b44), .val (.int (2 : Int32)), .val (.ref b77), .unset] [(.int (((((vl.toUInt32 >>> ((21 : Int32) &&& 31).toUInt32).toInt32) &&& (127 : Int32)) ||| (0 : Int32)).toInt8.toInt32)), (.int (3 : Int32)), (.ref b77)])) rfl rfl (hb hby at_265)
      have f87 := f85.other W86 ne_b44_b77
      have N86 := Fr.snoc X86 N84 ge_b77
      have SZ86 : n0 ≤ h86.size := by rw [W86.size]; exact SZ84
      refine own_by st86 ?_
      show own_Go p e below T86 (mkF m 266 #[.val (.int v0), .val (.int s0), .val (.int p0), .val (.int f0), .val (.int vl), .val (.int po), .val (.int bb), .val (.ref b44), .val (.int (2 : Int32)), .val (.ref b77), .unset] []) _
      refine own_s_aload X86.here hx (hb hby at_266) rfl rfl ?_
      refine own_s_iconst X86.here hx (4 : Int32) (hb hby at_268) rfl ?_
      refine own_s_iload X86.here hx (hb hby at_269) rfl ?_
      refine own_s_bipush X86.here hx (28 : Int32) (hb hby at_271) rfl ?_
      refine own_s_iushr X86.here hx (hb hby at_273) ?_
      refine own_s_i2b X86.here hx (hb hby at_274) ?_
      obtain ⟨T88, h88, X88, e88, W88, fa88, st88⟩ := own_stB X86 hx hZ e86 fa86 (k := 4) (by decide) (by decide) (g := (mkF m 275 #[.val (.int v0), .val (.int s0), .val (.int p0), .val (.int f0), .val (.int vl), .val (.int po), .val (.int bb), .val (.ref b44), .val (.int (2 : Int32)), .val (.ref b77), .unset] [(.int (((vl.toUInt32 >>> ((28 : Int32) &&& 31).toUInt32).toInt32).toInt8.toInt32)), (.int (4 : Int32)), (.ref b77)])) rfl rfl (hb hby at_275)
      have f89 := f87.other W88 ne_b44_b77
      have N88 := Fr.snoc X88 N86 ge_b77
      have SZ88 : n0 ≤ h88.size := by rw [W88.size]; exact SZ86
      refine own_by st88 ?_
      show own_Go p e below T88 (mkF m 276 #[.val (.int v0), .val (.int s0), .val (.int p0), .val (.int f0), .val (.int vl), .val (.int po), .val (.int bb), .val (.ref b44), .val (.int (2 : Int32)), .val (.ref b77), .unset] []) _
      have f90 : own_Av Z h88 b77 .byte 5 (fun i => .int ((own_b5 ((((vl &&& (127 : Int32)) ||| (128 : Int32)).toInt8.toInt32).toInt8.toInt32) ((((((vl.toUInt32 >>> ((7 : Int32) &&& 31).toUInt32).toInt32) &&& (127 : Int32)) ||| (0 : Int32)).toInt8.toInt32).toInt8.toInt32) ((((((vl.toUInt32 >>> ((14 : Int32) &&& 31).toUInt32).toInt32) &&& (127 : Int32)) ||| (0 : Int32)).toInt8.toInt32).toInt8.toInt32) ((((((vl.toUInt32 >>> ((21 : Int32) &&& 31).toUInt32).toInt32) &&& (127 : Int32)) ||| (0 : Int32)).toInt8.toInt32).toInt8.toInt32) ((((vl.toUInt32 >>> ((28 : Int32) &&& 31).toUInt32).toInt32).toInt8.toInt32).toInt8.toInt32)) i)) := fa88.cong rfl (fun i hi => by
        match i, hi with
        | 0, _ => rfl
        | 1, _ => rfl
        | 2, _ => rfl
        | 3, _ => rfl
        | 4, _ => rfl)
      have z1 := own_cond vl hvb
      have z2 := own_cond _ z1.1
      have z3 := own_cond _ z2.1
      have z4 := own_cond _ z3.1
      simp only [Int32.lt_iff_toInt_lt, show (128 : Int32).toInt = 128 from by decide, show (16384 : Int32).toInt = 16384 from by decide, show (2097152 : Int32).toInt = 2097152 from by decide, show (268435456 : Int32).toInt = 268435456 from by decide] at hc104 hc118
      have hub := vl.toInt_lt
      have he0 : (own_b5 ((((vl &&& (127 : Int32)) ||| (128 : Int32)).toInt8.toInt32).toInt8.toInt32) ((((((vl.toUInt32 >>> ((7 : Int32) &&& 31).toUInt32).toInt32) &&& (127 : Int32)) ||| (0 : Int32)).toInt8.toInt32).toInt8.toInt32) ((((((vl.toUInt32 >>> ((14 : Int32) &&& 31).toUInt32).toInt32) &&& (127 : Int32)) ||| (0 : Int32)).toInt8.toInt32).toInt8.toInt32) ((((((vl.toUInt32 >>> ((21 : Int32) &&& 31).toUInt32).toInt32) &&& (127 : Int32)) ||| (0 : Int32)).toInt8.toInt32).toInt8.toInt32) ((((vl.toUInt32 >>> ((28 : Int32) &&& 31).toUInt32).toInt32).toInt8.toInt32).toInt8.toInt32)) 0 = (own_mid vl) := by
        rfl
      have hl1 := own_lo (own_s7 vl) z1.1 (by omega)
      have he1 : (own_b5 ((((vl &&& (127 : Int32)) ||| (128 : Int32)).toInt8.toInt32).toInt8.toInt32) ((((((vl.toUInt32 >>> ((7 : Int32) &&& 31).toUInt32).toInt32) &&& (127 : Int32)) ||| (0 : Int32)).toInt8.toInt32).toInt8.toInt32) ((((((vl.toUInt32 >>> ((14 : Int32) &&& 31).toUInt32).toInt32) &&& (127 : Int32)) ||| (0 : Int32)).toInt8.toInt32).toInt8.toInt32) ((((((vl.toUInt32 >>> ((21 : Int32) &&& 31).toUInt32).toInt32) &&& (127 : Int32)) ||| (0 : Int32)).toInt8.toInt32).toInt8.toInt32) ((((vl.toUInt32 >>> ((28 : Int32) &&& 31).toUInt32).toInt32).toInt8.toInt32).toInt8.toInt32)) 1 = (own_by8 (own_s7 vl)) := by
        exact own_byx _ _ hl1
      refine own_s_aload X88.here hx (hb hby at_276) rfl rfl ?_
      refine own_s_iload X88.here hx (hb hby at_278) rfl ?_
      refine own_s_iload X88.here hx (hb hby at_280) rfl ?_
      obtain ⟨_, _, ⟨T91, L91, k91, n91⟩, -, X91, ⟨Lc91, hQ91, l91, y91, z91⟩, st91⟩ := Jvm.LawKit.callS X88 hx (y := (⟨"com/example/fold_time/foldtime/model/ByteWriter", "putVarint", "([BII)I"⟩ : MethodName)) hown (mvT hZ (hw _ (List.mem_of_getElem? (i := 2) rfl))) (mvT hZ (hw _ (List.mem_of_getElem? (i := 3) rfl))) (mvT hZ (hw _ (List.mem_of_getElem? (i := 4) rfl))) (mvT hZ (hw _ (List.mem_of_getElem? (i := 5) rfl))) (by decide) (backOf (W := 0) (own_pv2 l Z a0 hw [] b44 po vl ps (fun _ => (.int bb)) h88 n0 SZ88 hp.1 (by omega) (fun q => absurd ((own_mk _ hvb).mp q) (by omega)) ((own_mk _ z1.1).mpr (by omega)) f89 ge_b44) hZ (hw _ (List.mem_of_getElem? (i := 5) rfl)) (hw _ (List.mem_of_getElem? (i := 4) rfl)) (by decide) (by decide)) (g := (mkF m 282 #[.val (.int v0), .val (.int s0), .val (.int p0), .val (.int f0), .val (.int vl), .val (.int po), .val (.int bb), .val (.ref b44), .val (.int (2 : Int32)), .val (.ref b77), .unset] [(.int vl), (.int po), (.ref b44)])) rfl (by rw [hml]; rfl) (argsL := [(.ref b44), (.int po), (.int vl)]) (rest := []) (lenOf own_pd_0 rfl) rfl (by show 2 * 0 + _ ≤ _; exact Nat.le_of_eq rfl) (hb hby at_282) (fun _ _ => ⟨rfl, e88, (by decide : 2 + 0 ≤ _), (by decide : 18 + 0 ≤ _)⟩)
      dsimp only [Pt.U, Pt.locs, Pt.cells, Pt.slots] at X91 l91 y91 z91 st91 hQ91
      subst l91 y91 z91
      obtain ⟨rfl, N91q, K91, fa91⟩ := hQ91
      have N91 := Fr.app N88 N91q
      have f92 := f90.keep K91 (ninS (Ne.symm ne_b44_b77) nin0)
      have SZ91 : n0 ≤ T91.heap.size := Nat.le_trans SZ88 K91.1
      refine own_by st91 ?_
      show own_Go p e below T91 (mkF m 285 #[.val (.int v0), .val (.int s0), .val (.int p0), .val (.int f0), .val (.int vl), .val (.int po), .val (.int bb), .val (.ref b44), .val (.int (2 : Int32)), .val (.ref b77), .unset] [(.int ((po + (1 : Int32)) + (1 : Int32)))]) _
      have f93 := fa91.cong rfl (own_tfs2 vl bb ps (own_b5 ((((vl &&& (127 : Int32)) ||| (128 : Int32)).toInt8.toInt32).toInt8.toInt32) ((((((vl.toUInt32 >>> ((7 : Int32) &&& 31).toUInt32).toInt32) &&& (127 : Int32)) ||| (0 : Int32)).toInt8.toInt32).toInt8.toInt32) ((((((vl.toUInt32 >>> ((14 : Int32) &&& 31).toUInt32).toInt32) &&& (127 : Int32)) ||| (0 : Int32)).toInt8.toInt32).toInt8.toInt32) ((((((vl.toUInt32 >>> ((21 : Int32) &&& 31).toUInt32).toInt32) &&& (127 : Int32)) ||| (0 : Int32)).toInt8.toInt32).toInt8.toInt32) ((((vl.toUInt32 >>> ((28 : Int32) &&& 31).toUInt32).toInt32).toInt8.toInt32).toInt8.toInt32)) he0 he1)
      exact own_p285 hx hZ hw hby hml hown hnm hret hlk  v0 s0 p0 f0 vl po bb (2 : Int32) ((po + (1 : Int32)) + (1 : Int32)) b44 b77 ps 2 (own_b5 ((((vl &&& (127 : Int32)) ||| (128 : Int32)).toInt8.toInt32).toInt8.toInt32) ((((((vl.toUInt32 >>> ((7 : Int32) &&& 31).toUInt32).toInt32) &&& (127 : Int32)) ||| (0 : Int32)).toInt8.toInt32).toInt8.toInt32) ((((((vl.toUInt32 >>> ((14 : Int32) &&& 31).toUInt32).toInt32) &&& (127 : Int32)) ||| (0 : Int32)).toInt8.toInt32).toInt8.toInt32) ((((((vl.toUInt32 >>> ((21 : Int32) &&& 31).toUInt32).toInt32) &&& (127 : Int32)) ||| (0 : Int32)).toInt8.toInt32).toInt8.toInt32) ((((vl.toUInt32 >>> ((28 : Int32) &&& 31).toUInt32).toInt32).toInt8.toInt32).toInt8.toInt32)) X91 rfl N91 SZ91 (own_px2 po) hp.1 (by decide) hp.2 (by decide) f93 f92
    ·
      show own_Go p e below T58 (mkF m 118 #[.val (.int v0), .val (.int s0), .val (.int p0), .val (.int f0), .val (.int vl), .val (.int po), .val (.int bb), .val (.ref b44), .unset, .unset, .unset] [(.int (16384 : Int32)), (.int vl)]) _
      refine own_s_icmpYes X58.here hx 127 (hb hby at_118) (Jvm.Free.XT.ii_ge_t hc118) (by decide) (by decide) ?_
      refine own_s_iload X58.here hx (hb hby at_127) rfl ?_
      refine own_by (fun tq_ kq_ => X58.ldcInt hx hown (mvT hZ (hw _ (List.mem_of_getElem? (i := 10) rfl))) (g := (mkF m 129 #[.val (.int v0), .val (.int s0), .val (.int p0), .val (.int f0), .val (.int vl), .val (.int po), .val (.int bb), .val (.ref b44), .unset, .unset, .unset] [(.int vl)])) rfl (hb hby at_129) tq_ kq_) ?_
      show own_Go p e below T58 (mkF m 131 #[.val (.int v0), .val (.int s0), .val (.int p0), .val (.int f0), .val (.int vl), .val (.int po), .val (.int bb), .val (.ref b44), .unset, .unset, .unset] [(.int (2097152 : Int32)), (.int vl)]) _
      by_cases hc131 : vl < (2097152 : Int32)
      ·
        refine own_s_icmpNo X58.here hx (hb hby at_131) (Jvm.Free.XT.ii_ge_f hc131) ?_
        refine own_s_iconst X58.here hx (3 : Int32) (hb hby at_134) rfl ?_
        refine own_s_istore X58.here hx #[.val (.int v0), .val (.int s0), .val (.int p0), .val (.int f0), .val (.int vl), .val (.int po), .val (.int bb), .val (.ref b44), .val (.int (3 : Int32)), .unset, .unset] (hb hby at_135) rfl ?_
        show own_Go p e below T58 (mkF m 137 #[.val (.int v0), .val (.int s0), .val (.int p0), .val (.int f0), .val (.int vl), .val (.int po), .val (.int bb), .val (.ref b44), .val (.int (3 : Int32)), .unset, .unset] []) _
        refine own_s_goto X58.here hx 156 (hb hby at_137) (by decide) (by decide) ?_
        refine own_s_iconst X58.here hx (5 : Int32) (hb hby at_156) rfl ?_
        obtain ⟨T94, h94, k94, X94, e94, E94, A94, st94⟩ := newP X58 hx hZ (hw _ (List.mem_of_getElem? (i := 1) rfl)) e58 (g := (mkF m 157 #[.val (.int v0), .val (.int s0), .val (.int p0), .val (.int f0), .val (.int vl), .val (.int po), .val (.int bb), .val (.ref b44), .val (.int (3 : Int32)), .unset, .unset] [(.int (5 : Int32))])) rfl (hb hby at_157) rfl (by decide) (cap := 5) (by decide) (by decide) (by decide) (by decide)
        obtain ⟨b94, g94⟩ : ∃ z, z = h58.size := ⟨_, rfl⟩
        rw [← g94] at A94 st94
        have ge_b94 : n0 ≤ b94 := Nat.le_trans SZ58 (Nat.le_of_eq g94.symm)
        have ne_b44_b94 : b44 ≠ b94 := Nat.ne_of_lt (Nat.lt_of_lt_of_le f59.lt (Nat.le_of_eq g94.symm))
        have f95 := f59.ext E94
        have SZ94 : n0 ≤ h94.size := Nat.le_trans SZ58 E94.1
        have f96 : own_Av Z h94 b94 .byte 5 (fun _ => (.int (0 : Int32))) := own_Av.ofnew A94 (by decide) rfl
        refine own_by st94 ?_
        show own_Go p e below T94 (mkF m 159 #[.val (.int v0), .val (.int s0), .val (.int p0), .val (.int f0), .val (.int vl), .val (.int po), .val (.int bb), .val (.ref b44), .val (.int (3 : Int32)), .unset, .unset] [(.ref b94)]) _
        refine own_s_astore X94.here hx #[.val (.int v0), .val (.int s0), .val (.int p0), .val (.int f0), .val (.int vl), .val (.int po), .val (.int bb), .val (.ref b44), .val (.int (3 : Int32)), .val (.ref b94), .unset] (hb hby at_159) rfl rfl ?_
        refine own_s_aload X94.here hx (hb hby at_161) rfl rfl ?_
        refine own_s_iconst X94.here hx (0 : Int32) (hb hby at_163) rfl ?_
        refine own_s_iload X94.here hx (hb hby at_164) rfl ?_
        refine own_s_bipush X94.here hx (127 : Int32) (hb hby at_166) rfl ?_
        refine own_s_iand X94.here hx (hb hby at_168) ?_
        refine own_s_iload X94.here hx (hb hby at_169) rfl ?_
        refine own_s_iconst X94.here hx (1 : Int32) (hb hby at_171) rfl ?_
        refine own_s_icmpNo X94.here hx (hb hby at_172) (Jvm.Free.XT.ii_le_f ((by decide))) ?_
        refine own_s_sipush X94.here hx (128 : Int32) (hb hby at_175) rfl ?_
        show own_Go p e below T94 (mkF m 178 #[.val (.int v0), .val (.int s0), .val (.int p0), .val (.int f0), .val (.int vl), .val (.int po), .val (.int bb), .val (.ref b44), .val (.int (3 : Int32)), .val (.ref b94), .unset] [(.int (128 : Int32)), (.int (vl &&& (127 : Int32))), (.int (0 : Int32)), (.ref b94)]) _
        refine own_s_goto X94.here hx 182 (hb hby at_178) (by decide) (by decide) ?_
        refine own_s_ior X94.here hx (hb hby at_182) ?_
        refine own_s_i2b X94.here hx (hb hby at_183) ?_
        obtain ⟨T97, h97, X97, e97, W97, fa97, st97⟩ := own_stB X94 hx hZ e94 f96 (k := 0) (by decide) (by decide) (g := (mkF m 184 #[.val (.int v0), .val (.int s0), .val (.int p0), .val (.int f0), .val (.int vl), .val (.int po), .val (.int bb), .val (.ref b44), .val (.int (3 : Int32)), .val (.ref b94), .unset] [(.int (((vl &&& (127 : Int32)) ||| (128 : Int32)).toInt8.toInt32)), (.int (0 : Int32)), (.ref b94)])) rfl rfl (hb hby at_184)
        have f98 := f95.other W97 ne_b44_b94
        have N97 := Fr.snoc X97 N58 ge_b94
        have SZ97 : n0 ≤ h97.size := by rw [W97.size]; exact SZ94
        refine own_by st97 ?_
        show own_Go p e below T97 (mkF m 185 #[.val (.int v0), .val (.int s0), .val (.int p0), .val (.int f0), .val (.int vl), .val (.int po), .val (.int bb), .val (.ref b44), .val (.int (3 : Int32)), .val (.ref b94), .unset] []) _
        refine own_s_aload X97.here hx (hb hby at_185) rfl rfl ?_
        refine own_s_iconst X97.here hx (1 : Int32) (hb hby at_187) rfl ?_
        refine own_s_iload X97.here hx (hb hby at_188) rfl ?_
        refine own_s_bipush X97.here hx (7 : Int32) (hb hby at_190) rfl ?_
        refine own_s_iushr X97.here hx (hb hby at_192) ?_
        refine own_s_bipush X97.here hx (127 : Int32) (hb hby at_193) rfl ?_
        refine own_s_iand X97.here hx (hb hby at_195) ?_
        refine own_s_iload X97.here hx (hb hby at_196) rfl ?_
        refine own_s_iconst X97.here hx (2 : Int32) (hb hby at_198) rfl ?_
        refine own_s_icmpNo X97.here hx (hb hby at_199) (Jvm.Free.XT.ii_le_f ((by decide))) ?_
        refine own_s_sipush X97.here hx (128 : Int32) (hb hby at_202) rfl ?_
        show own_Go p e below T97 (mkF m 205 #[.val (.int v0), .val (.int s0), .val (.int p0), .val (.int f0), .val (.int vl), .val (.int po), .val (.int bb), .val (.ref b44), .val (.int (3 : Int32)), .val (.ref b94), .unset] [(.int (128 : Int32)), (.int (((vl.toUInt32 >>> ((7 : Int32) &&& 31).toUInt32).toInt32) &&& (127 : Int32))), (.int (1 : Int32)), (.ref b94)]) _
        refine own_s_goto X97.here hx 209 (hb hby at_205) (by decide) (by decide) ?_
        refine own_s_ior X97.here hx (hb hby at_209) ?_
        refine own_s_i2b X97.here hx (hb hby at_210) ?_
        obtain ⟨T99, h99, X99, e99, W99, fa99, st99⟩ := own_stB X97 hx hZ e97 fa97 (k := 1) (by decide) (by decide) (g := (mkF m 211 #[.val (.int v0), .val (.int s0), .val (.int p0), .val (.int f0), .val (.int vl), .val (.int po), .val (.int bb), .val (.ref b44), .val (.int (3 : Int32)), .val (.ref b94), .unset] [(.int (((((vl.toUInt32 >>> ((7 : Int32) &&& 31).toUInt32).toInt32) &&& (127 : Int32)) ||| (128 : Int32)).toInt8.toInt32)), (.int (1 : Int32)), (.ref b94)])) rfl rfl (hb hby at_211)
        have f100 := f98.other W99 ne_b44_b94
        have N99 := Fr.snoc X99 N97 ge_b94
        have SZ99 : n0 ≤ h99.size := by rw [W99.size]; exact SZ97
        refine own_by st99 ?_
        show own_Go p e below T99 (mkF m 212 #[.val (.int v0), .val (.int s0), .val (.int p0), .val (.int f0), .val (.int vl), .val (.int po), .val (.int bb), .val (.ref b44), .val (.int (3 : Int32)), .val (.ref b94), .unset] []) _
        refine own_s_aload X99.here hx (hb hby at_212) rfl rfl ?_
        refine own_s_iconst X99.here hx (2 : Int32) (hb hby at_214) rfl ?_
        refine own_s_iload X99.here hx (hb hby at_215) rfl ?_
        refine own_s_bipush X99.here hx (14 : Int32) (hb hby at_217) rfl ?_
        refine own_s_iushr X99.here hx (hb hby at_219) ?_
        refine own_s_bipush X99.here hx (127 : Int32) (hb hby at_220) rfl ?_
        refine own_s_iand X99.here hx (hb hby at_222) ?_
        refine own_s_iload X99.here hx (hb hby at_223) rfl ?_
        refine own_s_iconst X99.here hx (3 : Int32) (hb hby at_225) rfl ?_
        show own_Go p e below T99 (mkF m 226 #[.val (.int v0), .val (.int s0), .val (.int p0), .val (.int f0), .val (.int vl), .val (.int po), .val (.int bb), .val (.ref b44), .val (.int (3 : Int32)), .val (.ref b94), .unset] [(.int (3 : Int32)), (.int (3 : Int32)), (.int (((vl.toUInt32 >>> ((14 : Int32) &&& 31).toUInt32).toInt32) &&& (127 : Int32))), (.int (2 : Int32)), (.ref b94)]) _
        refine own_s_icmpYes X99.here hx 235 (hb hby at_226) (Jvm.Free.XT.ii_le_t ((by decide))) (by decide) (by decide) ?_
        refine own_s_iconst X99.here hx (0 : Int32) (hb hby at_235) rfl ?_
        refine own_s_ior X99.here hx (hb hby at_236) ?_
        refine own_s_i2b X99.here hx (hb hby at_237) ?_
        obtain ⟨T101, h101, X101, e101, W101, fa101, st101⟩ := own_stB X99 hx hZ e99 fa99 (k := 2) (by decide) (by decide) (g := (mkF m 238 #[.val (.int v0), .val (.int s0), .val (.int p0), .val (.int f0), .val (.int vl), .val (.int po), .val (.int bb), .val (.ref b44), .val (.int (3 : Int32)), .val (.ref b94), .unset] [(.int (((((vl.toUInt32 >>> ((14 : Int32) &&& 31).toUInt32).toInt32) &&& (127 : Int32)) ||| (0 : Int32)).toInt8.toInt32)), (.int (2 : Int32)), (.ref b94)])) rfl rfl (hb hby at_238)
        have f102 := f100.other W101 ne_b44_b94
        have N101 := Fr.snoc X101 N99 ge_b94
        have SZ101 : n0 ≤ h101.size := by rw [W101.size]; exact SZ99
        refine own_by st101 ?_
        show own_Go p e below T101 (mkF m 239 #[.val (.int v0), .val (.int s0), .val (.int p0), .val (.int f0), .val (.int vl), .val (.int po), .val (.int bb), .val (.ref b44), .val (.int (3 : Int32)), .val (.ref b94), .unset] []) _
        refine own_s_aload X101.here hx (hb hby at_239) rfl rfl ?_
        refine own_s_iconst X101.here hx (3 : Int32) (hb hby at_241) rfl ?_
        refine own_s_iload X101.here hx (hb hby at_242) rfl ?_
        refine own_s_bipush X101.here hx (21 : Int32) (hb hby at_244) rfl ?_
        refine own_s_iushr X101.here hx (hb hby at_246) ?_
        refine own_s_bipush X101.here hx (127 : Int32) (hb hby at_247) rfl ?_
        refine own_s_iand X101.here hx (hb hby at_249) ?_
        refine own_s_iload X101.here hx (hb hby at_250) rfl ?_
        refine own_s_iconst X101.here hx (4 : Int32) (hb hby at_252) rfl ?_
        show own_Go p e below T101 (mkF m 253 #[.val (.int v0), .val (.int s0), .val (.int p0), .val (.int f0), .val (.int vl), .val (.int po), .val (.int bb), .val (.ref b44), .val (.int (3 : Int32)), .val (.ref b94), .unset] [(.int (4 : Int32)), (.int (3 : Int32)), (.int (((vl.toUInt32 >>> ((21 : Int32) &&& 31).toUInt32).toInt32) &&& (127 : Int32))), (.int (3 : Int32)), (.ref b94)]) _
        refine own_s_icmpYes X101.here hx 262 (hb hby at_253) (Jvm.Free.XT.ii_le_t ((by decide))) (by decide) (by decide) ?_
        refine own_s_iconst X101.here hx (0 : Int32) (hb hby at_262) rfl ?_
        refine own_s_ior X101.here hx (hb hby at_263) ?_
        refine own_s_i2b X101.here hx (hb hby at_264) ?_
        obtain ⟨T103, h103, X103, e103, W103, fa103, st103⟩ := own_stB X101 hx hZ e101 fa101 (k := 3) (by decide) (by decide) (g := (mkF m 265 #[.val (.int v0), .val (.int s0), .val (.int p0), .val (.int f0), .val (.int vl), .val (.int po), .val (.int bb), .val (.ref b44), .val (.int (3 : Int32)), .val (.ref b94), .unset] [(.int (((((vl.toUInt32 >>> ((21 : Int32) &&& 31).toUInt32).toInt32) &&& (127 : Int32)) ||| (0 : Int32)).toInt8.toInt32)), (.int (3 : Int32)), (.ref b94)])) rfl rfl (hb hby at_265)
        have f104 := f102.other W103 ne_b44_b94
        have N103 := Fr.snoc X103 N101 ge_b94
        have SZ103 : n0 ≤ h103.size := by rw [W103.size]; exact SZ101
        refine own_by st103 ?_
        show own_Go p e below T103 (mkF m 266 #[.val (.int v0), .val (.int s0), .val (.int p0), .val (.int f0), .val (.int vl), .val (.int po), .val (.int bb), .val (.ref b44), .val (.int (3 : Int32)), .val (.ref b94), .unset] []) _
        refine own_s_aload X103.here hx (hb hby at_266) rfl rfl ?_
        refine own_s_iconst X103.here hx (4 : Int32) (hb hby at_268) rfl ?_
        refine own_s_iload X103.here hx (hb hby at_269) rfl ?_
        refine own_s_bipush X103.here hx (28 : Int32) (hb hby at_271) rfl ?_
        refine own_s_iushr X103.here hx (hb hby at_273) ?_
        refine own_s_i2b X103.here hx (hb hby at_274) ?_
        obtain ⟨T105, h105, X105, e105, W105, fa105, st105⟩ := own_stB X103 hx hZ e103 fa103 (k := 4) (by decide) (by decide) (g := (mkF m 275 #[.val (.int v0), .val (.int s0), .val (.int p0), .val (.int f0), .val (.int vl), .val (.int po), .val (.int bb), .val (.ref b44), .val (.int (3 : Int32)), .val (.ref b94), .unset] [(.int (((vl.toUInt32 >>> ((28 : Int32) &&& 31).toUInt32).toInt32).toInt8.toInt32)), (.int (4 : Int32)), (.ref b94)])) rfl rfl (hb hby at_275)
        have f106 := f104.other W105 ne_b44_b94
        have N105 := Fr.snoc X105 N103 ge_b94
        have SZ105 : n0 ≤ h105.size := by rw [W105.size]; exact SZ103
        refine own_by st105 ?_
        show own_Go p e below T105 (mkF m 276 #[.val (.int v0), .val (.int s0), .val (.int p0), .val (.int f0), .val (.int vl), .val (.int po), .val (.int bb), .val (.ref b44), .val (.int (3 : Int32)), .val (.ref b94), .unset] []) _
        have f107 : own_Av Z h105 b94 .byte 5 (fun i => .int ((own_b5 ((((vl &&& (127 : Int32)) ||| (128 : Int32)).toInt8.toInt32).toInt8.toInt32) ((((((vl.toUInt32 >>> ((7 : Int32) &&& 31).toUInt32).toInt32) &&& (127 : Int32)) ||| (128 : Int32)).toInt8.toInt32).toInt8.toInt32) ((((((vl.toUInt32 >>> ((14 : Int32) &&& 31).toUInt32).toInt32) &&& (127 : Int32)) ||| (0 : Int32)).toInt8.toInt32).toInt8.toInt32) ((((((vl.toUInt32 >>> ((21 : Int32) &&& 31).toUInt32).toInt32) &&& (127 : Int32)) ||| (0 : Int32)).toInt8.toInt32).toInt8.toInt32) ((((vl.toUInt32 >>> ((28 : Int32) &&& 31).toUInt32).toInt32).toInt8.toInt32).toInt8.toInt32)) i)) := fa105.cong rfl (fun i hi => by
          match i, hi with
          | 0, _ => rfl
          | 1, _ => rfl
          | 2, _ => rfl
          | 3, _ => rfl
          | 4, _ => rfl)
        have z1 := own_cond vl hvb
        have z2 := own_cond _ z1.1
        have z3 := own_cond _ z2.1
        have z4 := own_cond _ z3.1
        simp only [Int32.lt_iff_toInt_lt, show (128 : Int32).toInt = 128 from by decide, show (16384 : Int32).toInt = 16384 from by decide, show (2097152 : Int32).toInt = 2097152 from by decide, show (268435456 : Int32).toInt = 268435456 from by decide] at hc104 hc118 hc131
        have hub := vl.toInt_lt
        have he0 : (own_b5 ((((vl &&& (127 : Int32)) ||| (128 : Int32)).toInt8.toInt32).toInt8.toInt32) ((((((vl.toUInt32 >>> ((7 : Int32) &&& 31).toUInt32).toInt32) &&& (127 : Int32)) ||| (128 : Int32)).toInt8.toInt32).toInt8.toInt32) ((((((vl.toUInt32 >>> ((14 : Int32) &&& 31).toUInt32).toInt32) &&& (127 : Int32)) ||| (0 : Int32)).toInt8.toInt32).toInt8.toInt32) ((((((vl.toUInt32 >>> ((21 : Int32) &&& 31).toUInt32).toInt32) &&& (127 : Int32)) ||| (0 : Int32)).toInt8.toInt32).toInt8.toInt32) ((((vl.toUInt32 >>> ((28 : Int32) &&& 31).toUInt32).toInt32).toInt8.toInt32).toInt8.toInt32)) 0 = (own_mid vl) := by
          rfl
        have he1 : (own_b5 ((((vl &&& (127 : Int32)) ||| (128 : Int32)).toInt8.toInt32).toInt8.toInt32) ((((((vl.toUInt32 >>> ((7 : Int32) &&& 31).toUInt32).toInt32) &&& (127 : Int32)) ||| (128 : Int32)).toInt8.toInt32).toInt8.toInt32) ((((((vl.toUInt32 >>> ((14 : Int32) &&& 31).toUInt32).toInt32) &&& (127 : Int32)) ||| (0 : Int32)).toInt8.toInt32).toInt8.toInt32) ((((((vl.toUInt32 >>> ((21 : Int32) &&& 31).toUInt32).toInt32) &&& (127 : Int32)) ||| (0 : Int32)).toInt8.toInt32).toInt8.toInt32) ((((vl.toUInt32 >>> ((28 : Int32) &&& 31).toUInt32).toInt32).toInt8.toInt32).toInt8.toInt32)) 1 = (own_mid (own_s7 vl)) := by
          rfl
        have hl2 := own_lo (own_s7 (own_s7 vl)) z2.1 (by omega)
        have he2 : (own_b5 ((((vl &&& (127 : Int32)) ||| (128 : Int32)).toInt8.toInt32).toInt8.toInt32) ((((((vl.toUInt32 >>> ((7 : Int32) &&& 31).toUInt32).toInt32) &&& (127 : Int32)) ||| (128 : Int32)).toInt8.toInt32).toInt8.toInt32) ((((((vl.toUInt32 >>> ((14 : Int32) &&& 31).toUInt32).toInt32) &&& (127 : Int32)) ||| (0 : Int32)).toInt8.toInt32).toInt8.toInt32) ((((((vl.toUInt32 >>> ((21 : Int32) &&& 31).toUInt32).toInt32) &&& (127 : Int32)) ||| (0 : Int32)).toInt8.toInt32).toInt8.toInt32) ((((vl.toUInt32 >>> ((28 : Int32) &&& 31).toUInt32).toInt32).toInt8.toInt32).toInt8.toInt32)) 2 = (own_by8 (own_s7 (own_s7 vl))) := by
          exact own_byx _ _ (by rw [← own_s14]; exact hl2)
        refine own_s_aload X105.here hx (hb hby at_276) rfl rfl ?_
        refine own_s_iload X105.here hx (hb hby at_278) rfl ?_
        refine own_s_iload X105.here hx (hb hby at_280) rfl ?_
        obtain ⟨_, _, ⟨T108, L108, k108, n108⟩, -, X108, ⟨Lc108, hQ108, l108, y108, z108⟩, st108⟩ := Jvm.LawKit.callS X105 hx (y := (⟨"com/example/fold_time/foldtime/model/ByteWriter", "putVarint", "([BII)I"⟩ : MethodName)) hown (mvT hZ (hw _ (List.mem_of_getElem? (i := 2) rfl))) (mvT hZ (hw _ (List.mem_of_getElem? (i := 3) rfl))) (mvT hZ (hw _ (List.mem_of_getElem? (i := 4) rfl))) (mvT hZ (hw _ (List.mem_of_getElem? (i := 5) rfl))) (by decide) (backOf (W := 0) (own_pv3 l Z a0 hw [] b44 po vl ps (fun _ => (.int bb)) h105 n0 SZ105 hp.1 (by omega) (fun q => absurd ((own_mk _ hvb).mp q) (by omega)) (fun q => absurd ((own_mk _ z1.1).mp q) (by omega)) ((own_mk _ z2.1).mpr (by omega)) f106 ge_b44) hZ (hw _ (List.mem_of_getElem? (i := 5) rfl)) (hw _ (List.mem_of_getElem? (i := 4) rfl)) (by decide) (by decide)) (g := (mkF m 282 #[.val (.int v0), .val (.int s0), .val (.int p0), .val (.int f0), .val (.int vl), .val (.int po), .val (.int bb), .val (.ref b44), .val (.int (3 : Int32)), .val (.ref b94), .unset] [(.int vl), (.int po), (.ref b44)])) rfl (by rw [hml]; rfl) (argsL := [(.ref b44), (.int po), (.int vl)]) (rest := []) (lenOf own_pd_0 rfl) rfl (by show 2 * 0 + _ ≤ _; exact Nat.le_of_eq rfl) (hb hby at_282) (fun _ _ => ⟨rfl, e105, (by decide : 2 + 0 ≤ _), (by decide : 18 + 0 ≤ _)⟩)
        dsimp only [Pt.U, Pt.locs, Pt.cells, Pt.slots] at X108 l108 y108 z108 st108 hQ108
        subst l108 y108 z108
        obtain ⟨rfl, N108q, K108, fa108⟩ := hQ108
        have N108 := Fr.app N105 N108q
        have f109 := f107.keep K108 (ninS (Ne.symm ne_b44_b94) nin0)
        have SZ108 : n0 ≤ T108.heap.size := Nat.le_trans SZ105 K108.1
        refine own_by st108 ?_
        show own_Go p e below T108 (mkF m 285 #[.val (.int v0), .val (.int s0), .val (.int p0), .val (.int f0), .val (.int vl), .val (.int po), .val (.int bb), .val (.ref b44), .val (.int (3 : Int32)), .val (.ref b94), .unset] [(.int (((po + (1 : Int32)) + (1 : Int32)) + (1 : Int32)))]) _
        have f110 := fa108.cong rfl (own_tfs3 vl bb ps (own_b5 ((((vl &&& (127 : Int32)) ||| (128 : Int32)).toInt8.toInt32).toInt8.toInt32) ((((((vl.toUInt32 >>> ((7 : Int32) &&& 31).toUInt32).toInt32) &&& (127 : Int32)) ||| (128 : Int32)).toInt8.toInt32).toInt8.toInt32) ((((((vl.toUInt32 >>> ((14 : Int32) &&& 31).toUInt32).toInt32) &&& (127 : Int32)) ||| (0 : Int32)).toInt8.toInt32).toInt8.toInt32) ((((((vl.toUInt32 >>> ((21 : Int32) &&& 31).toUInt32).toInt32) &&& (127 : Int32)) ||| (0 : Int32)).toInt8.toInt32).toInt8.toInt32) ((((vl.toUInt32 >>> ((28 : Int32) &&& 31).toUInt32).toInt32).toInt8.toInt32).toInt8.toInt32)) he0 he1 he2)
        exact own_p285 hx hZ hw hby hml hown hnm hret hlk  v0 s0 p0 f0 vl po bb (3 : Int32) (((po + (1 : Int32)) + (1 : Int32)) + (1 : Int32)) b44 b94 ps 3 (own_b5 ((((vl &&& (127 : Int32)) ||| (128 : Int32)).toInt8.toInt32).toInt8.toInt32) ((((((vl.toUInt32 >>> ((7 : Int32) &&& 31).toUInt32).toInt32) &&& (127 : Int32)) ||| (128 : Int32)).toInt8.toInt32).toInt8.toInt32) ((((((vl.toUInt32 >>> ((14 : Int32) &&& 31).toUInt32).toInt32) &&& (127 : Int32)) ||| (0 : Int32)).toInt8.toInt32).toInt8.toInt32) ((((((vl.toUInt32 >>> ((21 : Int32) &&& 31).toUInt32).toInt32) &&& (127 : Int32)) ||| (0 : Int32)).toInt8.toInt32).toInt8.toInt32) ((((vl.toUInt32 >>> ((28 : Int32) &&& 31).toUInt32).toInt32).toInt8.toInt32).toInt8.toInt32)) X108 rfl N108 SZ108 (own_px3 po) hp.1 (by decide) hp.2 (by decide) f110 f109
      ·
        refine own_s_icmpYes X58.here hx 140 (hb hby at_131) (Jvm.Free.XT.ii_ge_t hc131) (by decide) (by decide) ?_
        refine own_s_iload X58.here hx (hb hby at_140) rfl ?_
        refine own_by (fun tq_ kq_ => X58.ldcInt hx hown (mvT hZ (hw _ (List.mem_of_getElem? (i := 11) rfl))) (g := (mkF m 142 #[.val (.int v0), .val (.int s0), .val (.int p0), .val (.int f0), .val (.int vl), .val (.int po), .val (.int bb), .val (.ref b44), .unset, .unset, .unset] [(.int vl)])) rfl (hb hby at_142) tq_ kq_) ?_
        show own_Go p e below T58 (mkF m 144 #[.val (.int v0), .val (.int s0), .val (.int p0), .val (.int f0), .val (.int vl), .val (.int po), .val (.int bb), .val (.ref b44), .unset, .unset, .unset] [(.int (268435456 : Int32)), (.int vl)]) _
        by_cases hc144 : vl < (268435456 : Int32)
        ·
          refine own_s_icmpNo X58.here hx (hb hby at_144) (Jvm.Free.XT.ii_ge_f hc144) ?_
          refine own_s_iconst X58.here hx (4 : Int32) (hb hby at_147) rfl ?_
          refine own_s_istore X58.here hx #[.val (.int v0), .val (.int s0), .val (.int p0), .val (.int f0), .val (.int vl), .val (.int po), .val (.int bb), .val (.ref b44), .val (.int (4 : Int32)), .unset, .unset] (hb hby at_148) rfl ?_
          show own_Go p e below T58 (mkF m 150 #[.val (.int v0), .val (.int s0), .val (.int p0), .val (.int f0), .val (.int vl), .val (.int po), .val (.int bb), .val (.ref b44), .val (.int (4 : Int32)), .unset, .unset] []) _
          refine own_s_goto X58.here hx 156 (hb hby at_150) (by decide) (by decide) ?_
          refine own_s_iconst X58.here hx (5 : Int32) (hb hby at_156) rfl ?_
          obtain ⟨T111, h111, k111, X111, e111, E111, A111, st111⟩ := newP X58 hx hZ (hw _ (List.mem_of_getElem? (i := 1) rfl)) e58 (g := (mkF m 157 #[.val (.int v0), .val (.int s0), .val (.int p0), .val (.int f0), .val (.int vl), .val (.int po), .val (.int bb), .val (.ref b44), .val (.int (4 : Int32)), .unset, .unset] [(.int (5 : Int32))])) rfl (hb hby at_157) rfl (by decide) (cap := 5) (by decide) (by decide) (by decide) (by decide)
          obtain ⟨b111, g111⟩ : ∃ z, z = h58.size := ⟨_, rfl⟩
          rw [← g111] at A111 st111
          have ge_b111 : n0 ≤ b111 := Nat.le_trans SZ58 (Nat.le_of_eq g111.symm)
          have ne_b44_b111 : b44 ≠ b111 := Nat.ne_of_lt (Nat.lt_of_lt_of_le f59.lt (Nat.le_of_eq g111.symm))
          have f112 := f59.ext E111
          have SZ111 : n0 ≤ h111.size := Nat.le_trans SZ58 E111.1
          have f113 : own_Av Z h111 b111 .byte 5 (fun _ => (.int (0 : Int32))) := own_Av.ofnew A111 (by decide) rfl
          refine own_by st111 ?_
          show own_Go p e below T111 (mkF m 159 #[.val (.int v0), .val (.int s0), .val (.int p0), .val (.int f0), .val (.int vl), .val (.int po), .val (.int bb), .val (.ref b44), .val (.int (4 : Int32)), .unset, .unset] [(.ref b111)]) _
          refine own_s_astore X111.here hx #[.val (.int v0), .val (.int s0), .val (.int p0), .val (.int f0), .val (.int vl), .val (.int po), .val (.int bb), .val (.ref b44), .val (.int (4 : Int32)), .val (.ref b111), .unset] (hb hby at_159) rfl rfl ?_
          refine own_s_aload X111.here hx (hb hby at_161) rfl rfl ?_
          refine own_s_iconst X111.here hx (0 : Int32) (hb hby at_163) rfl ?_
          refine own_s_iload X111.here hx (hb hby at_164) rfl ?_
          refine own_s_bipush X111.here hx (127 : Int32) (hb hby at_166) rfl ?_
          refine own_s_iand X111.here hx (hb hby at_168) ?_
          refine own_s_iload X111.here hx (hb hby at_169) rfl ?_
          refine own_s_iconst X111.here hx (1 : Int32) (hb hby at_171) rfl ?_
          refine own_s_icmpNo X111.here hx (hb hby at_172) (Jvm.Free.XT.ii_le_f ((by decide))) ?_
          refine own_s_sipush X111.here hx (128 : Int32) (hb hby at_175) rfl ?_
          show own_Go p e below T111 (mkF m 178 #[.val (.int v0), .val (.int s0), .val (.int p0), .val (.int f0), .val (.int vl), .val (.int po), .val (.int bb), .val (.ref b44), .val (.int (4 : Int32)), .val (.ref b111), .unset] [(.int (128 : Int32)), (.int (vl &&& (127 : Int32))), (.int (0 : Int32)), (.ref b111)]) _
          refine own_s_goto X111.here hx 182 (hb hby at_178) (by decide) (by decide) ?_
          refine own_s_ior X111.here hx (hb hby at_182) ?_
          refine own_s_i2b X111.here hx (hb hby at_183) ?_
          obtain ⟨T114, h114, X114, e114, W114, fa114, st114⟩ := own_stB X111 hx hZ e111 f113 (k := 0) (by decide) (by decide) (g := (mkF m 184 #[.val (.int v0), .val (.int s0), .val (.int p0), .val (.int f0), .val (.int vl), .val (.int po), .val (.int bb), .val (.ref b44), .val (.int (4 : Int32)), .val (.ref b111), .unset] [(.int (((vl &&& (127 : Int32)) ||| (128 : Int32)).toInt8.toInt32)), (.int (0 : Int32)), (.ref b111)])) rfl rfl (hb hby at_184)
          have f115 := f112.other W114 ne_b44_b111
          have N114 := Fr.snoc X114 N58 ge_b111
          have SZ114 : n0 ≤ h114.size := by rw [W114.size]; exact SZ111
          refine own_by st114 ?_
          show own_Go p e below T114 (mkF m 185 #[.val (.int v0), .val (.int s0), .val (.int p0), .val (.int f0), .val (.int vl), .val (.int po), .val (.int bb), .val (.ref b44), .val (.int (4 : Int32)), .val (.ref b111), .unset] []) _
          refine own_s_aload X114.here hx (hb hby at_185) rfl rfl ?_
          refine own_s_iconst X114.here hx (1 : Int32) (hb hby at_187) rfl ?_
          refine own_s_iload X114.here hx (hb hby at_188) rfl ?_
          refine own_s_bipush X114.here hx (7 : Int32) (hb hby at_190) rfl ?_
          refine own_s_iushr X114.here hx (hb hby at_192) ?_
          refine own_s_bipush X114.here hx (127 : Int32) (hb hby at_193) rfl ?_
          refine own_s_iand X114.here hx (hb hby at_195) ?_
          refine own_s_iload X114.here hx (hb hby at_196) rfl ?_
          refine own_s_iconst X114.here hx (2 : Int32) (hb hby at_198) rfl ?_
          refine own_s_icmpNo X114.here hx (hb hby at_199) (Jvm.Free.XT.ii_le_f ((by decide))) ?_
          refine own_s_sipush X114.here hx (128 : Int32) (hb hby at_202) rfl ?_
          show own_Go p e below T114 (mkF m 205 #[.val (.int v0), .val (.int s0), .val (.int p0), .val (.int f0), .val (.int vl), .val (.int po), .val (.int bb), .val (.ref b44), .val (.int (4 : Int32)), .val (.ref b111), .unset] [(.int (128 : Int32)), (.int (((vl.toUInt32 >>> ((7 : Int32) &&& 31).toUInt32).toInt32) &&& (127 : Int32))), (.int (1 : Int32)), (.ref b111)]) _
          refine own_s_goto X114.here hx 209 (hb hby at_205) (by decide) (by decide) ?_
          refine own_s_ior X114.here hx (hb hby at_209) ?_
          refine own_s_i2b X114.here hx (hb hby at_210) ?_
          obtain ⟨T116, h116, X116, e116, W116, fa116, st116⟩ := own_stB X114 hx hZ e114 fa114 (k := 1) (by decide) (by decide) (g := (mkF m 211 #[.val (.int v0), .val (.int s0), .val (.int p0), .val (.int f0), .val (.int vl), .val (.int po), .val (.int bb), .val (.ref b44), .val (.int (4 : Int32)), .val (.ref b111), .unset] [(.int (((((vl.toUInt32 >>> ((7 : Int32) &&& 31).toUInt32).toInt32) &&& (127 : Int32)) ||| (128 : Int32)).toInt8.toInt32)), (.int (1 : Int32)), (.ref b111)])) rfl rfl (hb hby at_211)
          have f117 := f115.other W116 ne_b44_b111
          have N116 := Fr.snoc X116 N114 ge_b111
          have SZ116 : n0 ≤ h116.size := by rw [W116.size]; exact SZ114
          refine own_by st116 ?_
          show own_Go p e below T116 (mkF m 212 #[.val (.int v0), .val (.int s0), .val (.int p0), .val (.int f0), .val (.int vl), .val (.int po), .val (.int bb), .val (.ref b44), .val (.int (4 : Int32)), .val (.ref b111), .unset] []) _
          refine own_s_aload X116.here hx (hb hby at_212) rfl rfl ?_
          refine own_s_iconst X116.here hx (2 : Int32) (hb hby at_214) rfl ?_
          refine own_s_iload X116.here hx (hb hby at_215) rfl ?_
          refine own_s_bipush X116.here hx (14 : Int32) (hb hby at_217) rfl ?_
          refine own_s_iushr X116.here hx (hb hby at_219) ?_
          refine own_s_bipush X116.here hx (127 : Int32) (hb hby at_220) rfl ?_
          refine own_s_iand X116.here hx (hb hby at_222) ?_
          refine own_s_iload X116.here hx (hb hby at_223) rfl ?_
          refine own_s_iconst X116.here hx (3 : Int32) (hb hby at_225) rfl ?_
          refine own_s_icmpNo X116.here hx (hb hby at_226) (Jvm.Free.XT.ii_le_f ((by decide))) ?_
          refine own_s_sipush X116.here hx (128 : Int32) (hb hby at_229) rfl ?_
          show own_Go p e below T116 (mkF m 232 #[.val (.int v0), .val (.int s0), .val (.int p0), .val (.int f0), .val (.int vl), .val (.int po), .val (.int bb), .val (.ref b44), .val (.int (4 : Int32)), .val (.ref b111), .unset] [(.int (128 : Int32)), (.int (((vl.toUInt32 >>> ((14 : Int32) &&& 31).toUInt32).toInt32) &&& (127 : Int32))), (.int (2 : Int32)), (.ref b111)]) _
          refine own_s_goto X116.here hx 236 (hb hby at_232) (by decide) (by decide) ?_
          refine own_s_ior X116.here hx (hb hby at_236) ?_
          refine own_s_i2b X116.here hx (hb hby at_237) ?_
          obtain ⟨T118, h118, X118, e118, W118, fa118, st118⟩ := own_stB X116 hx hZ e116 fa116 (k := 2) (by decide) (by decide) (g := (mkF m 238 #[.val (.int v0), .val (.int s0), .val (.int p0), .val (.int f0), .val (.int vl), .val (.int po), .val (.int bb), .val (.ref b44), .val (.int (4 : Int32)), .val (.ref b111), .unset] [(.int (((((vl.toUInt32 >>> ((14 : Int32) &&& 31).toUInt32).toInt32) &&& (127 : Int32)) ||| (128 : Int32)).toInt8.toInt32)), (.int (2 : Int32)), (.ref b111)])) rfl rfl (hb hby at_238)
          have f119 := f117.other W118 ne_b44_b111
          have N118 := Fr.snoc X118 N116 ge_b111
          have SZ118 : n0 ≤ h118.size := by rw [W118.size]; exact SZ116
          refine own_by st118 ?_
          show own_Go p e below T118 (mkF m 239 #[.val (.int v0), .val (.int s0), .val (.int p0), .val (.int f0), .val (.int vl), .val (.int po), .val (.int bb), .val (.ref b44), .val (.int (4 : Int32)), .val (.ref b111), .unset] []) _
          refine own_s_aload X118.here hx (hb hby at_239) rfl rfl ?_
          refine own_s_iconst X118.here hx (3 : Int32) (hb hby at_241) rfl ?_
          refine own_s_iload X118.here hx (hb hby at_242) rfl ?_
          refine own_s_bipush X118.here hx (21 : Int32) (hb hby at_244) rfl ?_
          refine own_s_iushr X118.here hx (hb hby at_246) ?_
          refine own_s_bipush X118.here hx (127 : Int32) (hb hby at_247) rfl ?_
          refine own_s_iand X118.here hx (hb hby at_249) ?_
          refine own_s_iload X118.here hx (hb hby at_250) rfl ?_
          refine own_s_iconst X118.here hx (4 : Int32) (hb hby at_252) rfl ?_
          show own_Go p e below T118 (mkF m 253 #[.val (.int v0), .val (.int s0), .val (.int p0), .val (.int f0), .val (.int vl), .val (.int po), .val (.int bb), .val (.ref b44), .val (.int (4 : Int32)), .val (.ref b111), .unset] [(.int (4 : Int32)), (.int (4 : Int32)), (.int (((vl.toUInt32 >>> ((21 : Int32) &&& 31).toUInt32).toInt32) &&& (127 : Int32))), (.int (3 : Int32)), (.ref b111)]) _
          refine own_s_icmpYes X118.here hx 262 (hb hby at_253) (Jvm.Free.XT.ii_le_t ((by decide))) (by decide) (by decide) ?_
          refine own_s_iconst X118.here hx (0 : Int32) (hb hby at_262) rfl ?_
          refine own_s_ior X118.here hx (hb hby at_263) ?_
          refine own_s_i2b X118.here hx (hb hby at_264) ?_
          obtain ⟨T120, h120, X120, e120, W120, fa120, st120⟩ := own_stB X118 hx hZ e118 fa118 (k := 3) (by decide) (by decide) (g := (mkF m 265 #[.val (.int v0), .val (.int s0), .val (.int p0), .val (.int f0), .val (.int vl), .val (.int po), .val (.int bb), .val (.ref b44), .val (.int (4 : Int32)), .val (.ref b111), .unset] [(.int (((((vl.toUInt32 >>> ((21 : Int32) &&& 31).toUInt32).toInt32) &&& (127 : Int32)) ||| (0 : Int32)).toInt8.toInt32)), (.int (3 : Int32)), (.ref b111)])) rfl rfl (hb hby at_265)
          have f121 := f119.other W120 ne_b44_b111
          have N120 := Fr.snoc X120 N118 ge_b111
          have SZ120 : n0 ≤ h120.size := by rw [W120.size]; exact SZ118
          refine own_by st120 ?_
          show own_Go p e below T120 (mkF m 266 #[.val (.int v0), .val (.int s0), .val (.int p0), .val (.int f0), .val (.int vl), .val (.int po), .val (.int bb), .val (.ref b44), .val (.int (4 : Int32)), .val (.ref b111), .unset] []) _
          refine own_s_aload X120.here hx (hb hby at_266) rfl rfl ?_
          refine own_s_iconst X120.here hx (4 : Int32) (hb hby at_268) rfl ?_
          refine own_s_iload X120.here hx (hb hby at_269) rfl ?_
          refine own_s_bipush X120.here hx (28 : Int32) (hb hby at_271) rfl ?_
          refine own_s_iushr X120.here hx (hb hby at_273) ?_
          refine own_s_i2b X120.here hx (hb hby at_274) ?_
          obtain ⟨T122, h122, X122, e122, W122, fa122, st122⟩ := own_stB X120 hx hZ e120 fa120 (k := 4) (by decide) (by decide) (g := (mkF m 275 #[.val (.int v0), .val (.int s0), .val (.int p0), .val (.int f0), .val (.int vl), .val (.int po), .val (.int bb), .val (.ref b44), .val (.int (4 : Int32)), .val (.ref b111), .unset] [(.int (((vl.toUInt32 >>> ((28 : Int32) &&& 31).toUInt32).toInt32).toInt8.toInt32)), (.int (4 : Int32)), (.ref b111)])) rfl rfl (hb hby at_275)
          have f123 := f121.other W122 ne_b44_b111
          have N122 := Fr.snoc X122 N120 ge_b111
          have SZ122 : n0 ≤ h122.size := by rw [W122.size]; exact SZ120
          refine own_by st122 ?_
          show own_Go p e below T122 (mkF m 276 #[.val (.int v0), .val (.int s0), .val (.int p0), .val (.int f0), .val (.int vl), .val (.int po), .val (.int bb), .val (.ref b44), .val (.int (4 : Int32)), .val (.ref b111), .unset] []) _
          have f124 : own_Av Z h122 b111 .byte 5 (fun i => .int ((own_b5 ((((vl &&& (127 : Int32)) ||| (128 : Int32)).toInt8.toInt32).toInt8.toInt32) ((((((vl.toUInt32 >>> ((7 : Int32) &&& 31).toUInt32).toInt32) &&& (127 : Int32)) ||| (128 : Int32)).toInt8.toInt32).toInt8.toInt32) ((((((vl.toUInt32 >>> ((14 : Int32) &&& 31).toUInt32).toInt32) &&& (127 : Int32)) ||| (128 : Int32)).toInt8.toInt32).toInt8.toInt32) ((((((vl.toUInt32 >>> ((21 : Int32) &&& 31).toUInt32).toInt32) &&& (127 : Int32)) ||| (0 : Int32)).toInt8.toInt32).toInt8.toInt32) ((((vl.toUInt32 >>> ((28 : Int32) &&& 31).toUInt32).toInt32).toInt8.toInt32).toInt8.toInt32)) i)) := fa122.cong rfl (fun i hi => by
            match i, hi with
            | 0, _ => rfl
            | 1, _ => rfl
            | 2, _ => rfl
            | 3, _ => rfl
            | 4, _ => rfl)
          have z1 := own_cond vl hvb
          have z2 := own_cond _ z1.1
          have z3 := own_cond _ z2.1
          have z4 := own_cond _ z3.1
          simp only [Int32.lt_iff_toInt_lt, show (128 : Int32).toInt = 128 from by decide, show (16384 : Int32).toInt = 16384 from by decide, show (2097152 : Int32).toInt = 2097152 from by decide, show (268435456 : Int32).toInt = 268435456 from by decide] at hc104 hc118 hc131 hc144
          have hub := vl.toInt_lt
          have he0 : (own_b5 ((((vl &&& (127 : Int32)) ||| (128 : Int32)).toInt8.toInt32).toInt8.toInt32) ((((((vl.toUInt32 >>> ((7 : Int32) &&& 31).toUInt32).toInt32) &&& (127 : Int32)) ||| (128 : Int32)).toInt8.toInt32).toInt8.toInt32) ((((((vl.toUInt32 >>> ((14 : Int32) &&& 31).toUInt32).toInt32) &&& (127 : Int32)) ||| (128 : Int32)).toInt8.toInt32).toInt8.toInt32) ((((((vl.toUInt32 >>> ((21 : Int32) &&& 31).toUInt32).toInt32) &&& (127 : Int32)) ||| (0 : Int32)).toInt8.toInt32).toInt8.toInt32) ((((vl.toUInt32 >>> ((28 : Int32) &&& 31).toUInt32).toInt32).toInt8.toInt32).toInt8.toInt32)) 0 = (own_mid vl) := by
            rfl
          have he1 : (own_b5 ((((vl &&& (127 : Int32)) ||| (128 : Int32)).toInt8.toInt32).toInt8.toInt32) ((((((vl.toUInt32 >>> ((7 : Int32) &&& 31).toUInt32).toInt32) &&& (127 : Int32)) ||| (128 : Int32)).toInt8.toInt32).toInt8.toInt32) ((((((vl.toUInt32 >>> ((14 : Int32) &&& 31).toUInt32).toInt32) &&& (127 : Int32)) ||| (128 : Int32)).toInt8.toInt32).toInt8.toInt32) ((((((vl.toUInt32 >>> ((21 : Int32) &&& 31).toUInt32).toInt32) &&& (127 : Int32)) ||| (0 : Int32)).toInt8.toInt32).toInt8.toInt32) ((((vl.toUInt32 >>> ((28 : Int32) &&& 31).toUInt32).toInt32).toInt8.toInt32).toInt8.toInt32)) 1 = (own_mid (own_s7 vl)) := by
            rfl
          have he2 : (own_b5 ((((vl &&& (127 : Int32)) ||| (128 : Int32)).toInt8.toInt32).toInt8.toInt32) ((((((vl.toUInt32 >>> ((7 : Int32) &&& 31).toUInt32).toInt32) &&& (127 : Int32)) ||| (128 : Int32)).toInt8.toInt32).toInt8.toInt32) ((((((vl.toUInt32 >>> ((14 : Int32) &&& 31).toUInt32).toInt32) &&& (127 : Int32)) ||| (128 : Int32)).toInt8.toInt32).toInt8.toInt32) ((((((vl.toUInt32 >>> ((21 : Int32) &&& 31).toUInt32).toInt32) &&& (127 : Int32)) ||| (0 : Int32)).toInt8.toInt32).toInt8.toInt32) ((((vl.toUInt32 >>> ((28 : Int32) &&& 31).toUInt32).toInt32).toInt8.toInt32).toInt8.toInt32)) 2 = (own_mid (own_s7 (own_s7 vl))) := by
            show _ = own_mid (own_s7 (own_s7 vl))
            unfold own_mid
            rw [own_s14]
            rfl
          have hl3 := own_lo (own_s7 (own_s7 (own_s7 vl))) z3.1 (by omega)
          have he3 : (own_b5 ((((vl &&& (127 : Int32)) ||| (128 : Int32)).toInt8.toInt32).toInt8.toInt32) ((((((vl.toUInt32 >>> ((7 : Int32) &&& 31).toUInt32).toInt32) &&& (127 : Int32)) ||| (128 : Int32)).toInt8.toInt32).toInt8.toInt32) ((((((vl.toUInt32 >>> ((14 : Int32) &&& 31).toUInt32).toInt32) &&& (127 : Int32)) ||| (128 : Int32)).toInt8.toInt32).toInt8.toInt32) ((((((vl.toUInt32 >>> ((21 : Int32) &&& 31).toUInt32).toInt32) &&& (127 : Int32)) ||| (0 : Int32)).toInt8.toInt32).toInt8.toInt32) ((((vl.toUInt32 >>> ((28 : Int32) &&& 31).toUInt32).toInt32).toInt8.toInt32).toInt8.toInt32)) 3 = (own_by8 (own_s7 (own_s7 (own_s7 vl)))) := by
            exact own_byx _ _ (by rw [← own_s21]; exact hl3)
          refine own_s_aload X122.here hx (hb hby at_276) rfl rfl ?_
          refine own_s_iload X122.here hx (hb hby at_278) rfl ?_
          refine own_s_iload X122.here hx (hb hby at_280) rfl ?_
          obtain ⟨_, _, ⟨T125, L125, k125, n125⟩, -, X125, ⟨Lc125, hQ125, l125, y125, z125⟩, st125⟩ := Jvm.LawKit.callS X122 hx (y := (⟨"com/example/fold_time/foldtime/model/ByteWriter", "putVarint", "([BII)I"⟩ : MethodName)) hown (mvT hZ (hw _ (List.mem_of_getElem? (i := 2) rfl))) (mvT hZ (hw _ (List.mem_of_getElem? (i := 3) rfl))) (mvT hZ (hw _ (List.mem_of_getElem? (i := 4) rfl))) (mvT hZ (hw _ (List.mem_of_getElem? (i := 5) rfl))) (by decide) (backOf (W := 0) (own_pv4 l Z a0 hw [] b44 po vl ps (fun _ => (.int bb)) h122 n0 SZ122 hp.1 (by omega) (fun q => absurd ((own_mk _ hvb).mp q) (by omega)) (fun q => absurd ((own_mk _ z1.1).mp q) (by omega)) (fun q => absurd ((own_mk _ z2.1).mp q) (by omega)) ((own_mk _ z3.1).mpr (by omega)) f123 ge_b44) hZ (hw _ (List.mem_of_getElem? (i := 5) rfl)) (hw _ (List.mem_of_getElem? (i := 4) rfl)) (by decide) (by decide)) (g := (mkF m 282 #[.val (.int v0), .val (.int s0), .val (.int p0), .val (.int f0), .val (.int vl), .val (.int po), .val (.int bb), .val (.ref b44), .val (.int (4 : Int32)), .val (.ref b111), .unset] [(.int vl), (.int po), (.ref b44)])) rfl (by rw [hml]; rfl) (argsL := [(.ref b44), (.int po), (.int vl)]) (rest := []) (lenOf own_pd_0 rfl) rfl (by show 2 * 0 + _ ≤ _; exact Nat.le_of_eq rfl) (hb hby at_282) (fun _ _ => ⟨rfl, e122, (by decide : 2 + 0 ≤ _), (by decide : 18 + 0 ≤ _)⟩)
          dsimp only [Pt.U, Pt.locs, Pt.cells, Pt.slots] at X125 l125 y125 z125 st125 hQ125
          subst l125 y125 z125
          obtain ⟨rfl, N125q, K125, fa125⟩ := hQ125
          have N125 := Fr.app N122 N125q
          have f126 := f124.keep K125 (ninS (Ne.symm ne_b44_b111) nin0)
          have SZ125 : n0 ≤ T125.heap.size := Nat.le_trans SZ122 K125.1
          refine own_by st125 ?_
          show own_Go p e below T125 (mkF m 285 #[.val (.int v0), .val (.int s0), .val (.int p0), .val (.int f0), .val (.int vl), .val (.int po), .val (.int bb), .val (.ref b44), .val (.int (4 : Int32)), .val (.ref b111), .unset] [(.int ((((po + (1 : Int32)) + (1 : Int32)) + (1 : Int32)) + (1 : Int32)))]) _
          have f127 := fa125.cong rfl (own_tfs4 vl bb ps (own_b5 ((((vl &&& (127 : Int32)) ||| (128 : Int32)).toInt8.toInt32).toInt8.toInt32) ((((((vl.toUInt32 >>> ((7 : Int32) &&& 31).toUInt32).toInt32) &&& (127 : Int32)) ||| (128 : Int32)).toInt8.toInt32).toInt8.toInt32) ((((((vl.toUInt32 >>> ((14 : Int32) &&& 31).toUInt32).toInt32) &&& (127 : Int32)) ||| (128 : Int32)).toInt8.toInt32).toInt8.toInt32) ((((((vl.toUInt32 >>> ((21 : Int32) &&& 31).toUInt32).toInt32) &&& (127 : Int32)) ||| (0 : Int32)).toInt8.toInt32).toInt8.toInt32) ((((vl.toUInt32 >>> ((28 : Int32) &&& 31).toUInt32).toInt32).toInt8.toInt32).toInt8.toInt32)) he0 he1 he2 he3)
          exact own_p285 hx hZ hw hby hml hown hnm hret hlk  v0 s0 p0 f0 vl po bb (4 : Int32) ((((po + (1 : Int32)) + (1 : Int32)) + (1 : Int32)) + (1 : Int32)) b44 b111 ps 4 (own_b5 ((((vl &&& (127 : Int32)) ||| (128 : Int32)).toInt8.toInt32).toInt8.toInt32) ((((((vl.toUInt32 >>> ((7 : Int32) &&& 31).toUInt32).toInt32) &&& (127 : Int32)) ||| (128 : Int32)).toInt8.toInt32).toInt8.toInt32) ((((((vl.toUInt32 >>> ((14 : Int32) &&& 31).toUInt32).toInt32) &&& (127 : Int32)) ||| (128 : Int32)).toInt8.toInt32).toInt8.toInt32) ((((((vl.toUInt32 >>> ((21 : Int32) &&& 31).toUInt32).toInt32) &&& (127 : Int32)) ||| (0 : Int32)).toInt8.toInt32).toInt8.toInt32) ((((vl.toUInt32 >>> ((28 : Int32) &&& 31).toUInt32).toInt32).toInt8.toInt32).toInt8.toInt32)) X125 rfl N125 SZ125 (own_px4 po) hp.1 (by decide) hp.2 (by decide) f127 f126
        ·
          refine own_s_icmpYes X58.here hx 153 (hb hby at_144) (Jvm.Free.XT.ii_ge_t hc144) (by decide) (by decide) ?_
          refine own_s_iconst X58.here hx (5 : Int32) (hb hby at_153) rfl ?_
          refine own_s_istore X58.here hx #[.val (.int v0), .val (.int s0), .val (.int p0), .val (.int f0), .val (.int vl), .val (.int po), .val (.int bb), .val (.ref b44), .val (.int (5 : Int32)), .unset, .unset] (hb hby at_154) rfl ?_
          refine own_s_iconst X58.here hx (5 : Int32) (hb hby at_156) rfl ?_
          obtain ⟨T128, h128, k128, X128, e128, E128, A128, st128⟩ := newP X58 hx hZ (hw _ (List.mem_of_getElem? (i := 1) rfl)) e58 (g := (mkF m 157 #[.val (.int v0), .val (.int s0), .val (.int p0), .val (.int f0), .val (.int vl), .val (.int po), .val (.int bb), .val (.ref b44), .val (.int (5 : Int32)), .unset, .unset] [(.int (5 : Int32))])) rfl (hb hby at_157) rfl (by decide) (cap := 5) (by decide) (by decide) (by decide) (by decide)
          obtain ⟨b128, g128⟩ : ∃ z, z = h58.size := ⟨_, rfl⟩
          rw [← g128] at A128 st128
          have ge_b128 : n0 ≤ b128 := Nat.le_trans SZ58 (Nat.le_of_eq g128.symm)
          have ne_b44_b128 : b44 ≠ b128 := Nat.ne_of_lt (Nat.lt_of_lt_of_le f59.lt (Nat.le_of_eq g128.symm))
          have f129 := f59.ext E128
          have SZ128 : n0 ≤ h128.size := Nat.le_trans SZ58 E128.1
          have f130 : own_Av Z h128 b128 .byte 5 (fun _ => (.int (0 : Int32))) := own_Av.ofnew A128 (by decide) rfl
          refine own_by st128 ?_
          show own_Go p e below T128 (mkF m 159 #[.val (.int v0), .val (.int s0), .val (.int p0), .val (.int f0), .val (.int vl), .val (.int po), .val (.int bb), .val (.ref b44), .val (.int (5 : Int32)), .unset, .unset] [(.ref b128)]) _
          refine own_s_astore X128.here hx #[.val (.int v0), .val (.int s0), .val (.int p0), .val (.int f0), .val (.int vl), .val (.int po), .val (.int bb), .val (.ref b44), .val (.int (5 : Int32)), .val (.ref b128), .unset] (hb hby at_159) rfl rfl ?_
          refine own_s_aload X128.here hx (hb hby at_161) rfl rfl ?_
          refine own_s_iconst X128.here hx (0 : Int32) (hb hby at_163) rfl ?_
          refine own_s_iload X128.here hx (hb hby at_164) rfl ?_
          refine own_s_bipush X128.here hx (127 : Int32) (hb hby at_166) rfl ?_
          refine own_s_iand X128.here hx (hb hby at_168) ?_
          refine own_s_iload X128.here hx (hb hby at_169) rfl ?_
          refine own_s_iconst X128.here hx (1 : Int32) (hb hby at_171) rfl ?_
          refine own_s_icmpNo X128.here hx (hb hby at_172) (Jvm.Free.XT.ii_le_f ((by decide))) ?_
          refine own_s_sipush X128.here hx (128 : Int32) (hb hby at_175) rfl ?_
          show own_Go p e below T128 (mkF m 178 #[.val (.int v0), .val (.int s0), .val (.int p0), .val (.int f0), .val (.int vl), .val (.int po), .val (.int bb), .val (.ref b44), .val (.int (5 : Int32)), .val (.ref b128), .unset] [(.int (128 : Int32)), (.int (vl &&& (127 : Int32))), (.int (0 : Int32)), (.ref b128)]) _
          refine own_s_goto X128.here hx 182 (hb hby at_178) (by decide) (by decide) ?_
          refine own_s_ior X128.here hx (hb hby at_182) ?_
          refine own_s_i2b X128.here hx (hb hby at_183) ?_
          obtain ⟨T131, h131, X131, e131, W131, fa131, st131⟩ := own_stB X128 hx hZ e128 f130 (k := 0) (by decide) (by decide) (g := (mkF m 184 #[.val (.int v0), .val (.int s0), .val (.int p0), .val (.int f0), .val (.int vl), .val (.int po), .val (.int bb), .val (.ref b44), .val (.int (5 : Int32)), .val (.ref b128), .unset] [(.int (((vl &&& (127 : Int32)) ||| (128 : Int32)).toInt8.toInt32)), (.int (0 : Int32)), (.ref b128)])) rfl rfl (hb hby at_184)
          have f132 := f129.other W131 ne_b44_b128
          have N131 := Fr.snoc X131 N58 ge_b128
          have SZ131 : n0 ≤ h131.size := by rw [W131.size]; exact SZ128
          refine own_by st131 ?_
          show own_Go p e below T131 (mkF m 185 #[.val (.int v0), .val (.int s0), .val (.int p0), .val (.int f0), .val (.int vl), .val (.int po), .val (.int bb), .val (.ref b44), .val (.int (5 : Int32)), .val (.ref b128), .unset] []) _
          refine own_s_aload X131.here hx (hb hby at_185) rfl rfl ?_
          refine own_s_iconst X131.here hx (1 : Int32) (hb hby at_187) rfl ?_
          refine own_s_iload X131.here hx (hb hby at_188) rfl ?_
          refine own_s_bipush X131.here hx (7 : Int32) (hb hby at_190) rfl ?_
          refine own_s_iushr X131.here hx (hb hby at_192) ?_
          refine own_s_bipush X131.here hx (127 : Int32) (hb hby at_193) rfl ?_
          refine own_s_iand X131.here hx (hb hby at_195) ?_
          refine own_s_iload X131.here hx (hb hby at_196) rfl ?_
          refine own_s_iconst X131.here hx (2 : Int32) (hb hby at_198) rfl ?_
          refine own_s_icmpNo X131.here hx (hb hby at_199) (Jvm.Free.XT.ii_le_f ((by decide))) ?_
          refine own_s_sipush X131.here hx (128 : Int32) (hb hby at_202) rfl ?_
          show own_Go p e below T131 (mkF m 205 #[.val (.int v0), .val (.int s0), .val (.int p0), .val (.int f0), .val (.int vl), .val (.int po), .val (.int bb), .val (.ref b44), .val (.int (5 : Int32)), .val (.ref b128), .unset] [(.int (128 : Int32)), (.int (((vl.toUInt32 >>> ((7 : Int32) &&& 31).toUInt32).toInt32) &&& (127 : Int32))), (.int (1 : Int32)), (.ref b128)]) _
          refine own_s_goto X131.here hx 209 (hb hby at_205) (by decide) (by decide) ?_
          refine own_s_ior X131.here hx (hb hby at_209) ?_
          refine own_s_i2b X131.here hx (hb hby at_210) ?_
          obtain ⟨T133, h133, X133, e133, W133, fa133, st133⟩ := own_stB X131 hx hZ e131 fa131 (k := 1) (by decide) (by decide) (g := (mkF m 211 #[.val (.int v0), .val (.int s0), .val (.int p0), .val (.int f0), .val (.int vl), .val (.int po), .val (.int bb), .val (.ref b44), .val (.int (5 : Int32)), .val (.ref b128), .unset] [(.int (((((vl.toUInt32 >>> ((7 : Int32) &&& 31).toUInt32).toInt32) &&& (127 : Int32)) ||| (128 : Int32)).toInt8.toInt32)), (.int (1 : Int32)), (.ref b128)])) rfl rfl (hb hby at_211)
          have f134 := f132.other W133 ne_b44_b128
          have N133 := Fr.snoc X133 N131 ge_b128
          have SZ133 : n0 ≤ h133.size := by rw [W133.size]; exact SZ131
          refine own_by st133 ?_
          show own_Go p e below T133 (mkF m 212 #[.val (.int v0), .val (.int s0), .val (.int p0), .val (.int f0), .val (.int vl), .val (.int po), .val (.int bb), .val (.ref b44), .val (.int (5 : Int32)), .val (.ref b128), .unset] []) _
          refine own_s_aload X133.here hx (hb hby at_212) rfl rfl ?_
          refine own_s_iconst X133.here hx (2 : Int32) (hb hby at_214) rfl ?_
          refine own_s_iload X133.here hx (hb hby at_215) rfl ?_
          refine own_s_bipush X133.here hx (14 : Int32) (hb hby at_217) rfl ?_
          refine own_s_iushr X133.here hx (hb hby at_219) ?_
          refine own_s_bipush X133.here hx (127 : Int32) (hb hby at_220) rfl ?_
          refine own_s_iand X133.here hx (hb hby at_222) ?_
          refine own_s_iload X133.here hx (hb hby at_223) rfl ?_
          refine own_s_iconst X133.here hx (3 : Int32) (hb hby at_225) rfl ?_
          refine own_s_icmpNo X133.here hx (hb hby at_226) (Jvm.Free.XT.ii_le_f ((by decide))) ?_
          refine own_s_sipush X133.here hx (128 : Int32) (hb hby at_229) rfl ?_
          show own_Go p e below T133 (mkF m 232 #[.val (.int v0), .val (.int s0), .val (.int p0), .val (.int f0), .val (.int vl), .val (.int po), .val (.int bb), .val (.ref b44), .val (.int (5 : Int32)), .val (.ref b128), .unset] [(.int (128 : Int32)), (.int (((vl.toUInt32 >>> ((14 : Int32) &&& 31).toUInt32).toInt32) &&& (127 : Int32))), (.int (2 : Int32)), (.ref b128)]) _
          refine own_s_goto X133.here hx 236 (hb hby at_232) (by decide) (by decide) ?_
          refine own_s_ior X133.here hx (hb hby at_236) ?_
          refine own_s_i2b X133.here hx (hb hby at_237) ?_
          obtain ⟨T135, h135, X135, e135, W135, fa135, st135⟩ := own_stB X133 hx hZ e133 fa133 (k := 2) (by decide) (by decide) (g := (mkF m 238 #[.val (.int v0), .val (.int s0), .val (.int p0), .val (.int f0), .val (.int vl), .val (.int po), .val (.int bb), .val (.ref b44), .val (.int (5 : Int32)), .val (.ref b128), .unset] [(.int (((((vl.toUInt32 >>> ((14 : Int32) &&& 31).toUInt32).toInt32) &&& (127 : Int32)) ||| (128 : Int32)).toInt8.toInt32)), (.int (2 : Int32)), (.ref b128)])) rfl rfl (hb hby at_238)
          have f136 := f134.other W135 ne_b44_b128
          have N135 := Fr.snoc X135 N133 ge_b128
          have SZ135 : n0 ≤ h135.size := by rw [W135.size]; exact SZ133
          refine own_by st135 ?_
          show own_Go p e below T135 (mkF m 239 #[.val (.int v0), .val (.int s0), .val (.int p0), .val (.int f0), .val (.int vl), .val (.int po), .val (.int bb), .val (.ref b44), .val (.int (5 : Int32)), .val (.ref b128), .unset] []) _
          refine own_s_aload X135.here hx (hb hby at_239) rfl rfl ?_
          refine own_s_iconst X135.here hx (3 : Int32) (hb hby at_241) rfl ?_
          refine own_s_iload X135.here hx (hb hby at_242) rfl ?_
          refine own_s_bipush X135.here hx (21 : Int32) (hb hby at_244) rfl ?_
          refine own_s_iushr X135.here hx (hb hby at_246) ?_
          refine own_s_bipush X135.here hx (127 : Int32) (hb hby at_247) rfl ?_
          refine own_s_iand X135.here hx (hb hby at_249) ?_
          refine own_s_iload X135.here hx (hb hby at_250) rfl ?_
          refine own_s_iconst X135.here hx (4 : Int32) (hb hby at_252) rfl ?_
          refine own_s_icmpNo X135.here hx (hb hby at_253) (Jvm.Free.XT.ii_le_f ((by decide))) ?_
          refine own_s_sipush X135.here hx (128 : Int32) (hb hby at_256) rfl ?_
          show own_Go p e below T135 (mkF m 259 #[.val (.int v0), .val (.int s0), .val (.int p0), .val (.int f0), .val (.int vl), .val (.int po), .val (.int bb), .val (.ref b44), .val (.int (5 : Int32)), .val (.ref b128), .unset] [(.int (128 : Int32)), (.int (((vl.toUInt32 >>> ((21 : Int32) &&& 31).toUInt32).toInt32) &&& (127 : Int32))), (.int (3 : Int32)), (.ref b128)]) _
          refine own_s_goto X135.here hx 263 (hb hby at_259) (by decide) (by decide) ?_
          refine own_s_ior X135.here hx (hb hby at_263) ?_
          refine own_s_i2b X135.here hx (hb hby at_264) ?_
          obtain ⟨T137, h137, X137, e137, W137, fa137, st137⟩ := own_stB X135 hx hZ e135 fa135 (k := 3) (by decide) (by decide) (g := (mkF m 265 #[.val (.int v0), .val (.int s0), .val (.int p0), .val (.int f0), .val (.int vl), .val (.int po), .val (.int bb), .val (.ref b44), .val (.int (5 : Int32)), .val (.ref b128), .unset] [(.int (((((vl.toUInt32 >>> ((21 : Int32) &&& 31).toUInt32).toInt32) &&& (127 : Int32)) ||| (128 : Int32)).toInt8.toInt32)), (.int (3 : Int32)), (.ref b128)])) rfl rfl (hb hby at_265)
          have f138 := f136.other W137 ne_b44_b128
          have N137 := Fr.snoc X137 N135 ge_b128
          have SZ137 : n0 ≤ h137.size := by rw [W137.size]; exact SZ135
          refine own_by st137 ?_
          show own_Go p e below T137 (mkF m 266 #[.val (.int v0), .val (.int s0), .val (.int p0), .val (.int f0), .val (.int vl), .val (.int po), .val (.int bb), .val (.ref b44), .val (.int (5 : Int32)), .val (.ref b128), .unset] []) _
          refine own_s_aload X137.here hx (hb hby at_266) rfl rfl ?_
          refine own_s_iconst X137.here hx (4 : Int32) (hb hby at_268) rfl ?_
          refine own_s_iload X137.here hx (hb hby at_269) rfl ?_
          refine own_s_bipush X137.here hx (28 : Int32) (hb hby at_271) rfl ?_
          refine own_s_iushr X137.here hx (hb hby at_273) ?_
          refine own_s_i2b X137.here hx (hb hby at_274) ?_
          obtain ⟨T139, h139, X139, e139, W139, fa139, st139⟩ := own_stB X137 hx hZ e137 fa137 (k := 4) (by decide) (by decide) (g := (mkF m 275 #[.val (.int v0), .val (.int s0), .val (.int p0), .val (.int f0), .val (.int vl), .val (.int po), .val (.int bb), .val (.ref b44), .val (.int (5 : Int32)), .val (.ref b128), .unset] [(.int (((vl.toUInt32 >>> ((28 : Int32) &&& 31).toUInt32).toInt32).toInt8.toInt32)), (.int (4 : Int32)), (.ref b128)])) rfl rfl (hb hby at_275)
          have f140 := f138.other W139 ne_b44_b128
          have N139 := Fr.snoc X139 N137 ge_b128
          have SZ139 : n0 ≤ h139.size := by rw [W139.size]; exact SZ137
          refine own_by st139 ?_
          show own_Go p e below T139 (mkF m 276 #[.val (.int v0), .val (.int s0), .val (.int p0), .val (.int f0), .val (.int vl), .val (.int po), .val (.int bb), .val (.ref b44), .val (.int (5 : Int32)), .val (.ref b128), .unset] []) _
          have f141 : own_Av Z h139 b128 .byte 5 (fun i => .int ((own_b5 ((((vl &&& (127 : Int32)) ||| (128 : Int32)).toInt8.toInt32).toInt8.toInt32) ((((((vl.toUInt32 >>> ((7 : Int32) &&& 31).toUInt32).toInt32) &&& (127 : Int32)) ||| (128 : Int32)).toInt8.toInt32).toInt8.toInt32) ((((((vl.toUInt32 >>> ((14 : Int32) &&& 31).toUInt32).toInt32) &&& (127 : Int32)) ||| (128 : Int32)).toInt8.toInt32).toInt8.toInt32) ((((((vl.toUInt32 >>> ((21 : Int32) &&& 31).toUInt32).toInt32) &&& (127 : Int32)) ||| (128 : Int32)).toInt8.toInt32).toInt8.toInt32) ((((vl.toUInt32 >>> ((28 : Int32) &&& 31).toUInt32).toInt32).toInt8.toInt32).toInt8.toInt32)) i)) := fa139.cong rfl (fun i hi => by
            match i, hi with
            | 0, _ => rfl
            | 1, _ => rfl
            | 2, _ => rfl
            | 3, _ => rfl
            | 4, _ => rfl)
          have z1 := own_cond vl hvb
          have z2 := own_cond _ z1.1
          have z3 := own_cond _ z2.1
          have z4 := own_cond _ z3.1
          simp only [Int32.lt_iff_toInt_lt, show (128 : Int32).toInt = 128 from by decide, show (16384 : Int32).toInt = 16384 from by decide, show (2097152 : Int32).toInt = 2097152 from by decide, show (268435456 : Int32).toInt = 268435456 from by decide] at hc104 hc118 hc131 hc144
          have hub := vl.toInt_lt
          have he0 : (own_b5 ((((vl &&& (127 : Int32)) ||| (128 : Int32)).toInt8.toInt32).toInt8.toInt32) ((((((vl.toUInt32 >>> ((7 : Int32) &&& 31).toUInt32).toInt32) &&& (127 : Int32)) ||| (128 : Int32)).toInt8.toInt32).toInt8.toInt32) ((((((vl.toUInt32 >>> ((14 : Int32) &&& 31).toUInt32).toInt32) &&& (127 : Int32)) ||| (128 : Int32)).toInt8.toInt32).toInt8.toInt32) ((((((vl.toUInt32 >>> ((21 : Int32) &&& 31).toUInt32).toInt32) &&& (127 : Int32)) ||| (128 : Int32)).toInt8.toInt32).toInt8.toInt32) ((((vl.toUInt32 >>> ((28 : Int32) &&& 31).toUInt32).toInt32).toInt8.toInt32).toInt8.toInt32)) 0 = (own_mid vl) := by
            rfl
          have he1 : (own_b5 ((((vl &&& (127 : Int32)) ||| (128 : Int32)).toInt8.toInt32).toInt8.toInt32) ((((((vl.toUInt32 >>> ((7 : Int32) &&& 31).toUInt32).toInt32) &&& (127 : Int32)) ||| (128 : Int32)).toInt8.toInt32).toInt8.toInt32) ((((((vl.toUInt32 >>> ((14 : Int32) &&& 31).toUInt32).toInt32) &&& (127 : Int32)) ||| (128 : Int32)).toInt8.toInt32).toInt8.toInt32) ((((((vl.toUInt32 >>> ((21 : Int32) &&& 31).toUInt32).toInt32) &&& (127 : Int32)) ||| (128 : Int32)).toInt8.toInt32).toInt8.toInt32) ((((vl.toUInt32 >>> ((28 : Int32) &&& 31).toUInt32).toInt32).toInt8.toInt32).toInt8.toInt32)) 1 = (own_mid (own_s7 vl)) := by
            rfl
          have he2 : (own_b5 ((((vl &&& (127 : Int32)) ||| (128 : Int32)).toInt8.toInt32).toInt8.toInt32) ((((((vl.toUInt32 >>> ((7 : Int32) &&& 31).toUInt32).toInt32) &&& (127 : Int32)) ||| (128 : Int32)).toInt8.toInt32).toInt8.toInt32) ((((((vl.toUInt32 >>> ((14 : Int32) &&& 31).toUInt32).toInt32) &&& (127 : Int32)) ||| (128 : Int32)).toInt8.toInt32).toInt8.toInt32) ((((((vl.toUInt32 >>> ((21 : Int32) &&& 31).toUInt32).toInt32) &&& (127 : Int32)) ||| (128 : Int32)).toInt8.toInt32).toInt8.toInt32) ((((vl.toUInt32 >>> ((28 : Int32) &&& 31).toUInt32).toInt32).toInt8.toInt32).toInt8.toInt32)) 2 = (own_mid (own_s7 (own_s7 vl))) := by
            show _ = own_mid (own_s7 (own_s7 vl))
            unfold own_mid
            rw [own_s14]
            rfl
          have he3 : (own_b5 ((((vl &&& (127 : Int32)) ||| (128 : Int32)).toInt8.toInt32).toInt8.toInt32) ((((((vl.toUInt32 >>> ((7 : Int32) &&& 31).toUInt32).toInt32) &&& (127 : Int32)) ||| (128 : Int32)).toInt8.toInt32).toInt8.toInt32) ((((((vl.toUInt32 >>> ((14 : Int32) &&& 31).toUInt32).toInt32) &&& (127 : Int32)) ||| (128 : Int32)).toInt8.toInt32).toInt8.toInt32) ((((((vl.toUInt32 >>> ((21 : Int32) &&& 31).toUInt32).toInt32) &&& (127 : Int32)) ||| (128 : Int32)).toInt8.toInt32).toInt8.toInt32) ((((vl.toUInt32 >>> ((28 : Int32) &&& 31).toUInt32).toInt32).toInt8.toInt32).toInt8.toInt32)) 3 = (own_mid (own_s7 (own_s7 (own_s7 vl)))) := by
            show _ = own_mid (own_s7 (own_s7 (own_s7 vl)))
            unfold own_mid
            rw [own_s21]
            rfl
          have he4 : (own_b5 ((((vl &&& (127 : Int32)) ||| (128 : Int32)).toInt8.toInt32).toInt8.toInt32) ((((((vl.toUInt32 >>> ((7 : Int32) &&& 31).toUInt32).toInt32) &&& (127 : Int32)) ||| (128 : Int32)).toInt8.toInt32).toInt8.toInt32) ((((((vl.toUInt32 >>> ((14 : Int32) &&& 31).toUInt32).toInt32) &&& (127 : Int32)) ||| (128 : Int32)).toInt8.toInt32).toInt8.toInt32) ((((((vl.toUInt32 >>> ((21 : Int32) &&& 31).toUInt32).toInt32) &&& (127 : Int32)) ||| (128 : Int32)).toInt8.toInt32).toInt8.toInt32) ((((vl.toUInt32 >>> ((28 : Int32) &&& 31).toUInt32).toInt32).toInt8.toInt32).toInt8.toInt32)) 4 = (own_by8 (own_s7 (own_s7 (own_s7 (own_s7 vl))))) := by
            exact own_byx _ _ (own_s28 vl).symm
          refine own_s_aload X139.here hx (hb hby at_276) rfl rfl ?_
          refine own_s_iload X139.here hx (hb hby at_278) rfl ?_
          refine own_s_iload X139.here hx (hb hby at_280) rfl ?_
          obtain ⟨_, _, ⟨T142, L142, k142, n142⟩, -, X142, ⟨Lc142, hQ142, l142, y142, z142⟩, st142⟩ := Jvm.LawKit.callS X139 hx (y := (⟨"com/example/fold_time/foldtime/model/ByteWriter", "putVarint", "([BII)I"⟩ : MethodName)) hown (mvT hZ (hw _ (List.mem_of_getElem? (i := 2) rfl))) (mvT hZ (hw _ (List.mem_of_getElem? (i := 3) rfl))) (mvT hZ (hw _ (List.mem_of_getElem? (i := 4) rfl))) (mvT hZ (hw _ (List.mem_of_getElem? (i := 5) rfl))) (by decide) (backOf (W := 0) (own_pv5 l Z a0 hw [] b44 po vl ps (fun _ => (.int bb)) h139 n0 SZ139 hp.1 (by omega) (fun q => absurd ((own_mk _ hvb).mp q) (by omega)) (fun q => absurd ((own_mk _ z1.1).mp q) (by omega)) (fun q => absurd ((own_mk _ z2.1).mp q) (by omega)) (fun q => absurd ((own_mk _ z3.1).mp q) (by omega)) ((own_mk _ z4.1).mpr (by omega)) f140 ge_b44) hZ (hw _ (List.mem_of_getElem? (i := 5) rfl)) (hw _ (List.mem_of_getElem? (i := 4) rfl)) (by decide) (by decide)) (g := (mkF m 282 #[.val (.int v0), .val (.int s0), .val (.int p0), .val (.int f0), .val (.int vl), .val (.int po), .val (.int bb), .val (.ref b44), .val (.int (5 : Int32)), .val (.ref b128), .unset] [(.int vl), (.int po), (.ref b44)])) rfl (by rw [hml]; rfl) (argsL := [(.ref b44), (.int po), (.int vl)]) (rest := []) (lenOf own_pd_0 rfl) rfl (by show 2 * 0 + _ ≤ _; exact Nat.le_of_eq rfl) (hb hby at_282) (fun _ _ => ⟨rfl, e139, (by decide : 2 + 0 ≤ _), (by decide : 18 + 0 ≤ _)⟩)
          dsimp only [Pt.U, Pt.locs, Pt.cells, Pt.slots] at X142 l142 y142 z142 st142 hQ142
          subst l142 y142 z142
          obtain ⟨rfl, N142q, K142, fa142⟩ := hQ142
          have N142 := Fr.app N139 N142q
          have f143 := f141.keep K142 (ninS (Ne.symm ne_b44_b128) nin0)
          have SZ142 : n0 ≤ T142.heap.size := Nat.le_trans SZ139 K142.1
          refine own_by st142 ?_
          show own_Go p e below T142 (mkF m 285 #[.val (.int v0), .val (.int s0), .val (.int p0), .val (.int f0), .val (.int vl), .val (.int po), .val (.int bb), .val (.ref b44), .val (.int (5 : Int32)), .val (.ref b128), .unset] [(.int (((((po + (1 : Int32)) + (1 : Int32)) + (1 : Int32)) + (1 : Int32)) + (1 : Int32)))]) _
          have f144 := fa142.cong rfl (own_tfs5 vl bb ps (own_b5 ((((vl &&& (127 : Int32)) ||| (128 : Int32)).toInt8.toInt32).toInt8.toInt32) ((((((vl.toUInt32 >>> ((7 : Int32) &&& 31).toUInt32).toInt32) &&& (127 : Int32)) ||| (128 : Int32)).toInt8.toInt32).toInt8.toInt32) ((((((vl.toUInt32 >>> ((14 : Int32) &&& 31).toUInt32).toInt32) &&& (127 : Int32)) ||| (128 : Int32)).toInt8.toInt32).toInt8.toInt32) ((((((vl.toUInt32 >>> ((21 : Int32) &&& 31).toUInt32).toInt32) &&& (127 : Int32)) ||| (128 : Int32)).toInt8.toInt32).toInt8.toInt32) ((((vl.toUInt32 >>> ((28 : Int32) &&& 31).toUInt32).toInt32).toInt8.toInt32).toInt8.toInt32)) he0 he1 he2 he3 he4)
          exact own_p285 hx hZ hw hby hml hown hnm hret hlk  v0 s0 p0 f0 vl po bb (5 : Int32) (((((po + (1 : Int32)) + (1 : Int32)) + (1 : Int32)) + (1 : Int32)) + (1 : Int32)) b44 b128 ps 5 (own_b5 ((((vl &&& (127 : Int32)) ||| (128 : Int32)).toInt8.toInt32).toInt8.toInt32) ((((((vl.toUInt32 >>> ((7 : Int32) &&& 31).toUInt32).toInt32) &&& (127 : Int32)) ||| (128 : Int32)).toInt8.toInt32).toInt8.toInt32) ((((((vl.toUInt32 >>> ((14 : Int32) &&& 31).toUInt32).toInt32) &&& (127 : Int32)) ||| (128 : Int32)).toInt8.toInt32).toInt8.toInt32) ((((((vl.toUInt32 >>> ((21 : Int32) &&& 31).toUInt32).toInt32) &&& (127 : Int32)) ||| (128 : Int32)).toInt8.toInt32).toInt8.toInt32) ((((vl.toUInt32 >>> ((28 : Int32) &&& 31).toUInt32).toInt32).toInt8.toInt32).toInt8.toInt32)) X142 rfl N142 SZ142 (own_px5 po) hp.1 (by decide) hp.2 (by decide) f144 f143
set_option maxRecDepth 65536 in
set_option maxHeartbeats 40000000 in
theorem own_comes {Post : Tables → Env → Array Value → State → Outcome → State → Prop} (hpost : ∀ tb e args s v u, (limb_1_1.after args s (.returned v) u = true ∧ limb_1_2.after args s (.returned v) u = true ∧ True) → FrameEnd s (.returned v) u (Jvm.fieldLocs frame_1_writes args s ++ Jvm.arrayLocs frame_1_arrays args s ++ Jvm.staticLocs frame_1_statics s) 16 128 → Post tb e args s (.returned v) u) :
    ArmFor flags0 classFile x code maxLocals ret World_1 tables_1 room_1 Calls_1 rest_1 Pre_1 Post := by
  intro l hfl _ _ p e ha hc hk s m args below hf hA hF happ hP
  obtain ⟨hcalls, hrest, hpre⟩ := hP
  obtain ⟨-, -, -, hnamed, -, -, -, hat⟩ := (Spec.applies_iff hf).mp happ
  obtain ⟨hg, hn⟩ := and_e (Cond.before_iff.mp (show (Jvm.Cond.and given_1 narrow_1).before args s = true from hpre))
  obtain ⟨g1, g2⟩ := and_e hg
  obtain ⟨g3, g4⟩ := and_e g2
  obtain ⟨g5, g6⟩ := and_e g4
  obtain ⟨g7, g8⟩ := and_e g6
  obtain ⟨w0, w1, w2, w3, rfl⟩ : ∃ w0 w1 w2 w3 : Value, args = #[w0, w1, w2, w3] := by
    have hs : args.size = 4 := by simpa [Cond.value, given_1] using g1
    obtain ⟨L⟩ := args
    match L, hs with
    | [w0, w1, w2, w3], _ => exact ⟨w0, w1, w2, w3, rfl⟩
  have hw := fun d (hd : d ∈ tables_1) => atoms_spec (ws := Jvm.Cond.code x code maxLocals ret :: tables_1) hat d (List.mem_cons_of_mem _ hd)
  obtain ⟨i0, ei0⟩ := is_v g3
  obtain rfl : w0 = (.int i0) := Option.some.inj ei0
  obtain ⟨i1, ei1⟩ := is_v g5
  obtain rfl : w1 = (.int i1) := Option.some.inj ei1
  obtain ⟨i2, ei2⟩ := is_v g7
  obtain rfl : w2 = (.int i2) := Option.some.inj ei2
  obtain ⟨i3, ei3⟩ := is_v g8
  obtain rfl : w3 = (.int i3) := Option.some.inj ei3
  obtain ⟨n, o, h1, h2, h3, _, L, rfl, ⟨rfl, N⟩, hq⟩ := own_r0 l s _ hw tables_1 i0 i1 i2 i3 s.heap s.heap.size (Nat.le_refl _) p e ha hc hk s m _ below hf ((Spec.applies_iff_loose hf).mp happ).1 ⟨rfl, State.Warmed39.refl s, rfl⟩ trivial
  refine ⟨n, _, h1, h2, h3, hpost _ _ _ _ _ _ ⟨Cond.after_iff.mpr rfl, Cond.after_iff.mpr (eq_i res_at (Term.int_eval (1)) rfl), trivial⟩ ⟨hq.1, hq.2.1, (hq.2.2.sift fun y hy => Or.inr (N y hy)).mono (by decide) (by decide)⟩⟩
theorem main_1_1 : Claimed_1_1 := own_comes fun _ _ _ _ _ _ h hF => ⟨h.1, hF⟩
theorem main_1_2 : Claimed_1_2 := own_comes fun _ _ _ _ _ _ h hF => ⟨h.2.1, hF⟩
end Jvm.Pilot.@@N@@
namespace Jvm.Pilot.@@N@@
open Jvm Jvm.ClassFile Sem Op Lib Jvm.Free Jvm.Stand Jvm.Pilot.@@N@@.Jvm.D
/-! MADE BY PROGRAM (witnessworld.py) out of the Statement's table words and the real class files: 9 classes; the members and pool entries that the words name. The judged class is class 1, her method 1. -/
namespace start1
open Jvm.ClassFile
def u (s : String) : CpInfo := .utf8 (stringToUtf16 s)
/-- a pool by its gaps: so many unusable entries, then the entry; so many at the end -/
def gap : Nat → List CpInfo → List CpInfo
  | 0, r => r
  | n + 1, r => .unusable :: gap n r
def poolList (es : List (Nat × CpInfo)) (last : Nat) : List CpInfo := es.foldr (fun e r => gap e.1 (e.2 :: r)) (gap last [])
def pool (es : List (Nat × CpInfo)) (last : Nat) : Array CpInfo := ⟨poolList es last⟩
def fileOf (pool : Array CpInfo) (this : Nat) (attrs : Array Attribute := #[]) (ms : Array MethodInfo := #[]) (fl : Nat := 33) (sup : Nat := 0) (ifs : Array Nat := #[]) (fds : Array FieldInfo := #[]) : ClassFile where
  minorVersion := 0
  majorVersion := 65
  constantPool := pool
  accessFlags := fl
  thisClass := this
  superClass := sup
  interfaces := ifs
  fields := fds
  methods := ms
  attributes := attrs
def plain (name : String) (sup : Option ClassId) : Class where
  name := name
  kind := .ordinary
  loader := none
  accessFlags := 33
  super := sup
  interfaces := #[]
  cf := none
  fields := #[]
  methods := #[]
  instanceTypes := #[]
  staticTypes := #[]
  resolved := #[]
  callSites := []
  init := .initialized
  statics := none
  mirror := none

def pool0 : Array CpInfo := pool [(5, u "<init>"), (0, u "()V"), (1, .class_ 10), (1, u "java/lang/Object")] 113

def k0m0 : Method := { name := "<init>", desc := "()V", sig := { parameters := [], returnType := none }, accessFlags := 1, code := none }
/-- java/lang/Object -/
def k0 : Class := { plain "java/lang/Object" none with
  accessFlags := 33
  interfaces := #[]
  cf := some (fileOf pool0 8 #[] #[{ accessFlags := 1, nameIndex := 5, descriptorIndex := 6, attributes := #[] }] 33 0 #[] #[])
  fields := #[]
  methods := #[k0m0]
  instanceTypes := #[]
  staticTypes := #[]
  resolved := Array.replicate 124 none
  statics := none }

def pool1 : Array CpInfo := pool [(2, .class_ 4), (1, u "java/lang/Object"), (0, u "<init>"), (0, u "()V"), (0, .integer 2147483647), (0, .integer 2097152), (0, .integer 268435456), (0, .methodref 11 12), (0, .class_ 13), (0, .nameAndType 14 15), (0, u "com/example/fold_time/foldtime/model/ByteWriter"), (0, u "putVarint"), (0, u "([BII)I"), (0, .methodref 17 18), (0, .class_ 19), (0, .nameAndType 20 21), (0, u "com/example/fold_time/foldtime/model/ByteWriterPutVarintPinLaw"), (0, u "at"), (0, u "([BIII[BB)Z"), (2, u "law"), (0, u "(IIII)Z")] 5

def k1m0 : Method := { name := "<init>", desc := "()V", sig := { parameters := [], returnType := none }, accessFlags := 1, code := none }
def k1c1 : Code := { maxStack := 6, maxLocals := 11, code := code, exceptionTable := #[], attributes := #[] }
def k1m1 : Method := { name := "law", desc := "(IIII)Z", sig := { parameters := [.int, .int, .int, .int], returnType := some .boolean }, accessFlags := 9, code := some k1c1 }
def k1c2 : Code := { maxStack := 2, maxLocals := 8, code := method_3_code, exceptionTable := #[], attributes := #[] }
def k1m2 : Method := { name := "at", desc := "([BIII[BB)Z", sig := { parameters := [(.array .byte), .int, .int, .int, (.array .byte), .byte], returnType := some .boolean }, accessFlags := 10, code := some k1c2 }
/-- com/example/fold_time/foldtime/model/ByteWriterPutVarintPinLaw -/
def k1 : Class := { plain "com/example/fold_time/foldtime/model/ByteWriterPutVarintPinLaw" (some 0) with
  accessFlags := 49
  interfaces := #[]
  cf := some (fileOf pool1 17 #[] #[{ accessFlags := 1, nameIndex := 5, descriptorIndex := 6, attributes := #[] }, { accessFlags := 9, nameIndex := 24, descriptorIndex := 25, attributes := #[] }, { accessFlags := 10, nameIndex := 20, descriptorIndex := 21, attributes := #[] }] 49 2 #[] #[])
  fields := #[]
  methods := #[k1m0, k1m1, k1m2]
  instanceTypes := #[]
  staticTypes := #[]
  resolved := Array.replicate 31 none
  statics := none }

def pool2 : Array CpInfo := pool [(4, .class_ 6), (1, u "java/lang/Object"), (3, .class_ 12), (1, u "com/example/fold_time/foldtime/model/ByteWriter"), (0, u "buffer"), (0, u "[B"), (13, u "size"), (0, u "I"), (2, u "putVarint"), (0, u "([BII)I"), (2, u "INT32"), (0, u "Ljava/lang/invoke/VarHandle;"), (10, u "INT64"), (78, u "MAX_BYTES")] 18

def k2c0 : Code := { maxStack := 4, maxLocals := 5, code := prog_6_method_4_code, exceptionTable := #[], attributes := #[] }
def k2m0 : Method := { name := "putVarint", desc := "([BII)I", sig := { parameters := [(.array .byte), .int, .int], returnType := some .int }, accessFlags := 9, code := some k2c0 }
/-- com/example/fold_time/foldtime/model/ByteWriter -/
def k2 : Class := { plain "com/example/fold_time/foldtime/model/ByteWriter" (some 0) with
  accessFlags := 49
  interfaces := #[]
  cf := some (fileOf pool2 10 #[] #[{ accessFlags := 9, nameIndex := 32, descriptorIndex := 33, attributes := #[] }] 49 4 #[] #[{ accessFlags := 26, nameIndex := 36, descriptorIndex := 37, attributes := #[] }, { accessFlags := 26, nameIndex := 48, descriptorIndex := 37, attributes := #[] }, { accessFlags := 26, nameIndex := 127, descriptorIndex := 29, attributes := #[] }, { accessFlags := 2, nameIndex := 13, descriptorIndex := 14, attributes := #[] }, { accessFlags := 2, nameIndex := 28, descriptorIndex := 29, attributes := #[] }])
  fields := #[{ name := "INT32", type := (.object "java/lang/invoke/VarHandle"), accessFlags := 26, slot := 0, constantValue := 0 }, { name := "INT64", type := (.object "java/lang/invoke/VarHandle"), accessFlags := 26, slot := 1, constantValue := 0 }, { name := "MAX_BYTES", type := .int, accessFlags := 26, slot := 2, constantValue := 0 }, { name := "buffer", type := (.array .byte), accessFlags := 2, slot := 0, constantValue := 0 }, { name := "size", type := .int, accessFlags := 2, slot := 1, constantValue := 0 }]
  methods := #[k2m0]
  instanceTypes := #[(.array .byte), .int]
  staticTypes := #[(.object "java/lang/invoke/VarHandle"), (.object "java/lang/invoke/VarHandle"), .int]
  resolved := Array.replicate 146 none
  statics := none }

def pool3 : Array CpInfo := pool [(1, u "java/lang/Cloneable"), (0, .class_ 1), (0, u "java/lang/Object"), (0, .class_ 3)] 3

/-- java/lang/Cloneable -/
def k3 : Class := { plain "java/lang/Cloneable" (some 0) with
  accessFlags := 1537
  interfaces := #[]
  cf := some (fileOf pool3 2 #[] #[] 1537 4 #[] #[])
  fields := #[]
  methods := #[]
  instanceTypes := #[]
  staticTypes := #[]
  resolved := Array.replicate 8 none
  statics := none }

def pool4 : Array CpInfo := pool [(1, u "java/io/Serializable"), (0, .class_ 1), (0, u "java/lang/Object"), (0, .class_ 3)] 3

/-- java/io/Serializable -/
def k4 : Class := { plain "java/io/Serializable" (some 0) with
  accessFlags := 1537
  interfaces := #[]
  cf := some (fileOf pool4 2 #[] #[] 1537 4 #[] #[])
  fields := #[]
  methods := #[]
  instanceTypes := #[]
  staticTypes := #[]
  resolved := Array.replicate 8 none
  statics := none }

/-- the primitive byte -/
def k5 : Class := { plain "byte" none with kind := .primitive 'B', accessFlags := 0x411 }
/-- [B -/
def k6 : Class := { plain "[B" (some 0) with kind := .array 5 .byte, interfaces := #[3, 4], accessFlags := 1041 }

/-- the primitive int -/
def k7 : Class := { plain "int" none with kind := .primitive 'I', accessFlags := 0x411 }
/-- [I -/
def k8 : Class := { plain "[I" (some 0) with kind := .array 7 .int, interfaces := #[3, 4], accessFlags := 1041 }

def heap : Heap := #[]
def classes : Array Class := #[k0, k1, k2, k3, k4, k5, k6, k7, k8]
def interned : List (Array UInt16 × Addr) := []
def slotsUsed : Nat := 0
def theMethod : MethodId := ⟨1, 1⟩
def args0 : Array Value := #[.int 5, .int 5, .int 5, .int 5]
def aboutOver (below : List Frame) : State where
  vm := { classes := classes, interned := interned.toArray }
  heap := heap
  slotsUsed := slotsUsed
  threads := #[{ frames := .invoking theMethod args0 :: below }]
def below0 : List Frame := [.native { method := ⟨0, 0⟩, args := #[] }]
def about1 : State := aboutOver below0
def p0 : Program := .bare "" "" ""
def e0 : Env := launch0.env 0 0 0
theorem w_frames : about1.frames = Frame.invoking theMethod args0 :: below0 := rfl
set_option maxRecDepth 65536 in
theorem w_args : argsFit about1.vm theMethod args0 = true := by decide +kernel
set_option maxRecDepth 65536 in
theorem w_heap : heapFits about1 = true := by decide +kernel
set_option maxRecDepth 65536 in
theorem w_runnable : about1.curStatus? = some .runnable := by decide +kernel
set_option maxRecDepth 65536 in
theorem w_alone : about1.alone = true := by decide +kernel
set_option maxRecDepth 65536 in
theorem w_named : about1.methodNamed? x = some theMethod := by decide +kernel
set_option maxRecDepth 65536 in
theorem w_hears : about1.hears theMethod below0 = true := by decide +kernel
set_option maxRecDepth 65536 in
theorem w_ripe : about1.ripe theMethod args0 below0 = true := by decide +kernel
theorem w_running : about1.status = .running := rfl
set_option maxRecDepth 65536 in
theorem w_room : about1.hasRoom e0.platform room_1 = true :=
  launch0.hasRoom_least _ room_1 (by decide +kernel) (by decide +kernel) (by decide +kernel) (by decide +kernel) (by decide +kernel) (by decide +kernel)
theorem allAtoms_all (ts : List Jvm.Cond) (a : Array Jvm.Value) (st : Jvm.State) : (allAtoms ts).before a st = ts.all (fun c => c.before a st) := by
  induction ts with
  | nil => rfl
  | cons c t ih =>
    show (Jvm.Cond.and c (allAtoms t)).before a st = _
    rw [Jvm.Cond.before_and, ih, List.all_cons]
def words1 : List Jvm.Cond := Jvm.Cond.code x code maxLocals ret :: tables_1
/-- a 'code' word, met by the world's own term for the bytes: nothing is compared byte by byte -/
theorem code_word {y : MethodName} {bytes : ByteArray} {mx : Nat} {rt : Option FieldType} {a : Array Value} {s : State} {m : MethodId} {meth : Method} {c : Code} (h1 : s.methodNamed? y = some m) (h2 : s.vm.method? m = some meth) (h3 : meth.code = some c) (h4 : c.code = bytes)
    (h5 : (c.maxLocals == mx && c.exceptionTable.isEmpty && decide (c.maxStack ≤ mostOperands) && decide (meth.sig.returnType = rt) && !meth.locks && decide (parseMethodDescriptor y.desc = some meth.sig)) = true) : (Jvm.Cond.code y bytes mx rt).before a s = true := by
  simp only [Bool.and_eq_true, beq_iff_eq, Bool.not_eq_true', decide_eq_true_eq] at h5
  obtain ⟨⟨⟨⟨⟨g1, g2⟩, g3⟩, g4⟩, g5⟩, g6⟩ := h5
  simp [Cond.before, Cond.holds, Cond.value, h1, h2, h3, h4, g1, g2, g3, g4, g5, g6]
def isCode : Jvm.Cond → Bool
  | .code _ _ _ _ => true
  | _ => false
theorem all_split {L : List Jvm.Cond} {P : Jvm.Cond → Bool} (h1 : L.all (fun c => isCode c || P c) = true) (h2 : ∀ c ∈ L.filter isCode, P c = true) : L.all P = true := by
  refine List.all_eq_true.mpr fun c hc => ?_
  have h := List.all_eq_true.mp h1 c hc
  rcases Bool.eq_false_or_eq_true (isCode c) with hi | hi
  · exact h2 c (List.mem_filter.mpr ⟨hc, hi⟩)
  · simpa [hi] using h
set_option maxRecDepth 65536 in
theorem w_c0 : (Jvm.Cond.code x code maxLocals ret).before args0 about1 = true := code_word (m := ⟨1, 1⟩) (meth := k1m1) (c := k1c1) (by decide +kernel) rfl rfl rfl (by decide +kernel)
set_option maxRecDepth 65536 in
theorem w_c1 : (Jvm.Cond.code ({ cls := "com/example/fold_time/foldtime/model/ByteWriter", name := "putVarint", desc := "([BII)I" } : Jvm.MethodName) prog_6_method_4_code (5 : Nat) (Option.some Jvm.ClassFile.FieldType.int)).before args0 about1 = true := code_word (m := ⟨2, 0⟩) (meth := k2m0) (c := k2c0) (by decide +kernel) rfl rfl rfl (by decide +kernel)
set_option maxRecDepth 65536 in
theorem w_c2 : (Jvm.Cond.code ({ cls := "com/example/fold_time/foldtime/model/ByteWriterPutVarintPinLaw", name := "at", desc := "([BIII[BB)Z" } : Jvm.MethodName) method_3_code (8 : Nat) (Option.some Jvm.ClassFile.FieldType.boolean)).before args0 about1 = true := code_word (m := ⟨1, 2⟩) (meth := k1m2) (c := k1c2) (by decide +kernel) rfl rfl rfl (by decide +kernel)
def codes1 : List Jvm.Cond := [Jvm.Cond.code x code maxLocals ret, Jvm.Cond.code ({ cls := "com/example/fold_time/foldtime/model/ByteWriter", name := "putVarint", desc := "([BII)I" } : Jvm.MethodName) prog_6_method_4_code (5 : Nat) (Option.some Jvm.ClassFile.FieldType.int), Jvm.Cond.code ({ cls := "com/example/fold_time/foldtime/model/ByteWriterPutVarintPinLaw", name := "at", desc := "([BIII[BB)Z" } : Jvm.MethodName) method_3_code (8 : Nat) (Option.some Jvm.ClassFile.FieldType.boolean)]
set_option maxRecDepth 65536 in
theorem codes_eq : words1.filter isCode = codes1 := rfl
theorem w_codes : ∀ c ∈ words1.filter isCode, c.before args0 about1 = true := by
  rw [codes_eq]
  intro c hc
  simp only [codes1, List.mem_cons, List.not_mem_nil, or_false] at hc
  rcases hc with rfl | rfl | rfl
  · exact w_c0
  · exact w_c1
  · exact w_c2
set_option maxRecDepth 65536 in
theorem w_t1 : words1.all (fun c => isCode c || c.before args0 about1) = true := by decide +kernel
theorem w_tables : (allAtoms (Jvm.Cond.code x code maxLocals ret :: tables_1)).before args0 about1 = true := by
  rw [allAtoms_all]
  show words1.all (fun c => c.before args0 about1) = true
  refine all_split ?_ w_codes
  rw [w_t1]
set_option maxRecDepth 65536 in
theorem w_case : (Jvm.Cond.and given_1 narrow_1).before args0 about1 = true := by decide +kernel
theorem w_applies : (headSpec (Jvm.Cond.code x code maxLocals ret :: tables_1) room_1).applies x e0.platform about1 = true :=
  (Spec.applies_iff w_frames).mpr ⟨w_running, w_runnable, w_alone, w_named, w_hears, w_ripe, w_room, w_tables⟩
theorem atStart : AtStart classFile x code maxLocals ret World_1 tables_1 room_1 Calls_1 rest_1 Pre_1 launch0 p0 e0 about1 theMethod args0 below0 :=
  ⟨lists_1, trivial, launch0.admits_env _ _ _, launch0.least_env, fairChoices_fair.cas, fairChoices_fair.clock, w_frames, w_args, w_heap, w_applies, trivial, trivial, w_case⟩
end start1
theorem witness_1 : WitnessClaimed_1 := ⟨start1.p0, start1.e0, start1.about1, start1.theMethod, start1.args0, start1.below0, start1.atStart⟩
end Jvm.Pilot.@@N@@
