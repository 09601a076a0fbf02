import JvmDerived
import JvmDerived.Pilot.@@N@@Statement
import JvmDerived.Pilot.@@N@@Code
set_option linter.unusedVariables false
set_option linter.unusedSimpArgs false
@@BLOCK:NumsL.lean.txt@@
namespace Jvm.Pilot.@@N@@
open Jvm Jvm.ClassFile Sem Op Lib Jvm.Free Jvm.Stand Jvm.LawKit Jvm.RoadKit Bundle Jvm.Pilot.@@N@@.Jvm.D

/-! the walk's own small kit: from the frame g over the state T the body comes to its end, with Φ -/
def own_Go (p : Program) (e : Env) (below : List Frame) (T : State) (g : JFrame) (Φ : Outcome → State → Prop) : Prop :=
  ∃ s₂ o, Steps p.tables e below (T.setTop g) s₂ ∧ s₂.status = .running ∧ Ended s₂ below o ∧ Φ o s₂
def own_Fin (s : State) (Q : Option Value → Heap → List Loc → Prop) (k j : Nat) (o : Outcome) (U' : State) : Prop :=
  ∃ v L, o = .returned v ∧ Q v U'.heap L ∧ FrameEnd s o U' L k j
theorem own_by {p : Program} {e : Env} {below : List Frame} {T T' : State} {g g' : JFrame} {Φ : Outcome → State → Prop}
    (h : ∀ t, Steps p.tables e below (T'.setTop g') t → Steps p.tables e below (T.setTop g) t) (k : own_Go p e below T' g' Φ) : own_Go p e below T g Φ := by
  obtain ⟨s₂, o, h1, h2⟩ := k
  exact ⟨s₂, o, h _ h1, h2⟩
theorem own_start {p : Program} {e : Env} {below : List Frame} {s T : State} {g g' : JFrame} {Q : Option Value → Heap → List Loc → Prop} {k j : Nat} (hg : g = g')
    (h : own_Go p e below T g' (own_Fin s Q k j)) : ∃ s₂ o, Steps p.tables e below (T.setTop g) s₂ ∧ s₂.status = .running ∧ Ended s₂ below o ∧ ∃ v L, o = .returned v ∧ Q v s₂.heap L ∧ FrameEnd s o s₂ L k j := by
  subst hg
  exact h
section OwnRet
variable {p : Program} {l : Launch} {e : Env} {R : Room} {s : State} {m : MethodId} {args : Array Value} {below : List Frame} {meth : Method} {c : Code} {T : State} {locs : List Loc} {cells slots : Nat} {Q : Option Value → Heap → List Loc → Prop} {k j pc : Nat} {Ls : Array Slot} {rest : List Value}
theorem own_retN {t : FieldType} (ht : t = .boolean ∨ t = .byte ∨ t = .char ∨ t = .short) (X : Stand p l e R s m args below meth c T locs cells slots) (hx : p.tables.exec = Jvm.exec) (hret : meth.sig.returnType = some t) (hlk : meth.locks = false) {z : Int32} (hd : decode c.code pc = .ok (.ireturn, 1))
    (hz : nar t z = z) (hk : cells ≤ k) (hj : slots ≤ j) (q : Q (some (.int z)) T.heap locs) : own_Go p e below T (mkF m pc Ls (.int z :: rest)) (own_Fin s Q k j) := by
  obtain ⟨fs, hr, hrun, hended, hW, hsame⟩ := X.leave (v := some (.int z)) (fun h => by rw [hret] at h; cases h)
  exact ⟨_, _, retN X hx hret ht hd (by rw [hz]; exact hr), hrun, hended, _, _, rfl, q, ⟨_, rfl⟩, hW, hsame.mono hk hj⟩
theorem own_retZ (X : Stand p l e R s m args below meth c T locs cells slots) (hx : p.tables.exec = Jvm.exec) (hret : meth.sig.returnType = some .boolean) (hlk : meth.locks = false) {z : Int32} (hd : decode c.code pc = .ok (.ireturn, 1))
    (hz : nar .boolean z = z) (hk : cells ≤ k) (hj : slots ≤ j) (q : Q (some (.int z)) T.heap locs) : own_Go p e below T (mkF m pc Ls (.int z :: rest)) (own_Fin s Q k j) := own_retN (Or.inl rfl) X hx hret hlk hd hz hk hj q
theorem own_retI (X : Stand p l e R s m args below meth c T locs cells slots) (hx : p.tables.exec = Jvm.exec) (hret : meth.sig.returnType = some .int) (hlk : meth.locks = false) {z : Int32} (hd : decode c.code pc = .ok (.ireturn, 1))
    (hk : cells ≤ k) (hj : slots ≤ j) (q : Q (some (.int z)) T.heap locs) : own_Go p e below T (mkF m pc Ls (.int z :: rest)) (own_Fin s Q k j) := by
  obtain ⟨fs, hr, hrun, hended, hW, hsame⟩ := X.leave (v := some (.int z)) (fun h => by rw [hret] at h; cases h)
  exact ⟨_, _, retOut X hx hret rfl (Or.inl ⟨rfl, Or.inl rfl, z, rfl⟩) hd hr, hrun, hended, _, _, rfl, q, ⟨_, rfl⟩, hW, hsame.mono hk hj⟩
theorem own_retJ (X : Stand p l e R s m args below meth c T locs cells slots) (hx : p.tables.exec = Jvm.exec) (hret : meth.sig.returnType = some .long) (hlk : meth.locks = false) {z : Int64} (hd : decode c.code pc = .ok (.lreturn, 1))
    (hk : cells ≤ k) (hj : slots ≤ j) (q : Q (some (.long z)) T.heap locs) : own_Go p e below T (mkF m pc Ls (.long z :: rest)) (own_Fin s Q k j) := by
  obtain ⟨fs, hr, hrun, hended, hW, hsame⟩ := X.leave (v := some (.long z)) (fun h => by rw [hret] at h; cases h)
  exact ⟨_, _, retOut X hx hret rfl (Or.inr (Or.inl ⟨rfl, rfl, z, rfl⟩)) hd hr, hrun, hended, _, _, rfl, q, ⟨_, rfl⟩, hW, hsame.mono hk hj⟩
theorem own_retA {t : FieldType} (X : Stand p l e R s m args below meth c T locs cells slots) (hx : p.tables.exec = Jvm.exec) (hret : meth.sig.returnType = some t) (hlk : meth.locks = false) {z : Value} (hd : decode c.code pc = .ok (.areturn, 1))
    (ht : t.isReference = true) (hz : z.isRef = true) (hn : narrow t z = z) (hk : cells ≤ k) (hj : slots ≤ j) (q : Q (some z) T.heap locs) : own_Go p e below T (mkF m pc Ls (z :: rest)) (own_Fin s Q k j) := by
  obtain ⟨fs, hr, hrun, hended, hW, hsame⟩ := X.leave (v := some z) (fun h => by rw [hret] at h; cases h)
  exact ⟨_, _, retOut X hx hret hn (Or.inr (Or.inr (Or.inr (Or.inr ⟨rfl, ht, hz⟩)))) hd hr, hrun, hended, _, _, rfl, q, ⟨_, rfl⟩, hW, hsame.mono hk hj⟩
theorem own_retV (X : Stand p l e R s m args below meth c T locs cells slots) (hx : p.tables.exec = Jvm.exec) (hret : meth.sig.returnType = none) (hlk : meth.locks = false) (hd : decode c.code pc = .ok (.return_, 1))
    (hk : cells ≤ k) (hj : slots ≤ j) (q : Q none T.heap locs) : own_Go p e below T (mkF m pc Ls []) (own_Fin s Q k j) := by
  obtain ⟨fs, hr, hrun, hended, hW, hsame⟩ := X.leave (v := none) (fun _ => rfl)
  exact ⟨_, _, X.returnOut hx hret hd hr, hrun, hended, _, _, rfl, q, ⟨_, rfl⟩, hW, hsame.mono hk hj⟩
theorem own_lrem_eq (x y : Int64) : x - x / y * y = x % y := Int64.toInt_inj.mp (by rw [Jvm.Kit.i64_rem, Int64.toInt_mod])
theorem own_lrem {g : JFrame} {target : State} (X : Stand p l e R s m args below meth c T locs cells slots) (hx : p.tables.exec = Jvm.exec) (hg : g.method = m) {x y : Int64} {rest : List Value} (hd : decode c.code g.pc = .ok (.lrem, 1)) (hs : g.stack = .long y :: .long x :: rest) (hy : y ≠ 0)
    (hr : Steps p.tables e below (T.setTop { g with pc := g.pc + 1, stack := .long (x % y) :: rest }) target) : Steps p.tables e below (T.setTop g) target :=
  XS.lrem X.here hx hg hd hs hy (by rw [own_lrem_eq x y]; exact hr)
end OwnRet
/-! an array: its length, and what each place holds -/
abbrev own_At (j : Int32) (k : Nat) : Prop := ¬ j < 0 ∧ j.toNatClampNeg = k
def own_upd (f : Nat → Value) (k : Nat) (v : Value) : Nat → Value := fun i => if i = k then v else f i
theorem own_upd_hit {f : Nat → Value} {k i : Nat} {v : Value} (h : i = k) : own_upd f k v i = v := if_pos h
theorem own_upd_miss {f : Nat → Value} {k i : Nat} {v : Value} (h : ¬ i = k) : own_upd f k v i = f i := if_neg h
def own_Av (Z : State) (h : Heap) (a : Addr) (ty : FieldType) (n : Nat) (f : Nat → Value) : Prop := ∃ c : Cell, Arr Z h a c ty ∧ c.slots.size = n ∧ ∀ i, i < n → c.slots[i]? = some (f i)
section OwnArr
variable {Z : State} {h h' : Heap} {a b : Addr} {ty : FieldType} {n k sl : Nat} {f : Nat → Value} {v : Value} {ws : List Addr}
theorem own_Av.ext (F : own_Av Z h a ty n f) (E : Ext h h') : own_Av Z h' a ty n f := by obtain ⟨c, A, r⟩ := F; exact ⟨c, A.ext E, r⟩
theorem own_Av.other (F : own_Av Z h b ty n f) (W : Wr h h' a sl v) (q : b ≠ a) : own_Av Z h' b ty n f := by obtain ⟨c, A, r⟩ := F; exact ⟨c, A.other W q, r⟩
theorem own_Av.keep (F : own_Av Z h a ty n f) (K : Keep h h' ws) (q : a ∉ ws) : own_Av Z h' a ty n f := by obtain ⟨c, A, r⟩ := F; exact ⟨c, ⟨K.2.1 a c A.1 q, A.2⟩, r⟩
theorem own_Av.lt (F : own_Av Z h a ty n f) : a < h.size := by obtain ⟨c, A, -⟩ := F; exact A.lt
theorem own_Av.ofnew {z : Int32} {kc : ClassId} {d : Value} (A : Arr Z h a (newA kc ty z) ty) (hn : z.toNatClampNeg = n) (hd : defaultValue ty = d) : own_Av Z h a ty n (fun _ => d) := by
  subst hn hd
  exact ⟨_, A, sz_new _ _ _, fun i hi => by simp [newA, hi]⟩
theorem own_Av.set (F : own_Av Z h a ty n f) (W : Wr h h' a k v) : own_Av Z h' a ty n (own_upd f k v) := by
  obtain ⟨c, A, S, H⟩ := F
  refine ⟨_, A.same W, by rw [sz_set]; exact S, fun i hi => ?_⟩
  by_cases q : i = k
  · subst q
    rw [own_upd_hit rfl]
    simp [Cell.setSlot, S, hi]
  · rw [own_upd_miss q, ← H i hi]
    exact Array.getElem?_setIfInBounds_ne fun u => q u.symm
theorem own_Av.cong {g : Nat → Value} {n' : Nat} (F : own_Av Z h a ty n f) (hn : n = n') (q : ∀ i, i < n → f i = g i) : own_Av Z h a ty n' g := by
  subst hn
  obtain ⟨c, A, S, H⟩ := F
  exact ⟨c, A, S, fun i hi => by rw [← q i hi]; exact H i hi⟩
theorem own_in {j : Int32} (hj : own_At j k) (hk : k < n) {c : Cell} (S : c.slots.size = n) : ¬ (j < 0 ∨ c.slots.size ≤ j.toNatClampNeg) := by
  intro q
  rcases q with q | q
  · exact hj.1 q
  · rw [hj.2, S] at q; omega
variable {p : Program} {l : Launch} {e : Env} {R : Room} {s : State} {m : MethodId} {args : Array Value} {below : List Frame} {meth : Method} {c : Code} {T : State} {locs : List Loc} {cells slots : Nat}
theorem own_ldI (X : Stand p l e R s m args below meth c T locs cells slots) (hx : p.tables.exec = Jvm.exec) (hZ : Z.Warmed39 s.vm) (eT : T.heap = h) (F : own_Av Z h a .int n f) {j : Int32} (hj : own_At j k) (hk : k < n) (hv : f k = v)
    {g : JFrame} (hg : g.method = m) {rest : List Value} (hs : g.stack = .int j :: .ref a :: rest) (hd : decode c.code g.pc = .ok (.iaload, 1)) (t : State)
    (hr : Steps p.tables e below (T.setTop { g with pc := g.pc + 1, stack := v :: rest }) t) : Steps p.tables e below (T.setTop g) t := by
  obtain ⟨cl, A, S, H⟩ := F
  exact X.iaload hx (by rw [eT]; exact A.1) (State.isArrayOf_alike hZ.alike A.2.1) A.2.2 (own_in hj hk S) (by rw [hj.2, H k hk, hv]) hg hs hd t hr
theorem own_ldJ (X : Stand p l e R s m args below meth c T locs cells slots) (hx : p.tables.exec = Jvm.exec) (hZ : Z.Warmed39 s.vm) (eT : T.heap = h) (F : own_Av Z h a .long n f) {j : Int32} (hj : own_At j k) (hk : k < n) (hv : f k = v)
    {g : JFrame} (hg : g.method = m) {rest : List Value} (hs : g.stack = .int j :: .ref a :: rest) (hd : decode c.code g.pc = .ok (.laload, 1)) (t : State)
    (hr : Steps p.tables e below (T.setTop { g with pc := g.pc + 1, stack := v :: rest }) t) : Steps p.tables e below (T.setTop g) t := by
  obtain ⟨cl, A, S, H⟩ := F
  exact X.laload hx (by rw [eT]; exact A.1) (State.isArrayOf_alike hZ.alike A.2.1) A.2.2 (own_in hj hk S) (by rw [hj.2, H k hk, hv]) hg hs hd t hr
theorem own_ldS (X : Stand p l e R s m args below meth c T locs cells slots) (hx : p.tables.exec = Jvm.exec) (hZ : Z.Warmed39 s.vm) (eT : T.heap = h) (F : own_Av Z h a .short n f) {j : Int32} (hj : own_At j k) (hk : k < n) (hv : f k = v)
    {g : JFrame} (hg : g.method = m) {rest : List Value} (hs : g.stack = .int j :: .ref a :: rest) (hd : decode c.code g.pc = .ok (.saload, 1)) (t : State)
    (hr : Steps p.tables e below (T.setTop { g with pc := g.pc + 1, stack := v :: rest }) t) : Steps p.tables e below (T.setTop g) t := by
  obtain ⟨cl, A, S, H⟩ := F
  exact X.saload hx (by rw [eT]; exact A.1) (State.isArrayOf_alike hZ.alike A.2.1) A.2.2 (own_in hj hk S) (by rw [hj.2, H k hk, hv]) hg hs hd t hr
theorem own_ldC (X : Stand p l e R s m args below meth c T locs cells slots) (hx : p.tables.exec = Jvm.exec) (hZ : Z.Warmed39 s.vm) (eT : T.heap = h) (F : own_Av Z h a .char n f) {j : Int32} (hj : own_At j k) (hk : k < n) (hv : f k = v)
    {g : JFrame} (hg : g.method = m) {rest : List Value} (hs : g.stack = .int j :: .ref a :: rest) (hd : decode c.code g.pc = .ok (.caload, 1)) (t : State)
    (hr : Steps p.tables e below (T.setTop { g with pc := g.pc + 1, stack := v :: rest }) t) : Steps p.tables e below (T.setTop g) t := by
  obtain ⟨cl, A, S, H⟩ := F
  exact X.caload hx (by rw [eT]; exact A.1) (State.isArrayOf_alike hZ.alike A.2.1) A.2.2 (own_in hj hk S) (by rw [hj.2, H k hk, hv]) hg hs hd t hr
theorem own_ldB (X : Stand p l e R s m args below meth c T locs cells slots) (hx : p.tables.exec = Jvm.exec) (hZ : Z.Warmed39 s.vm) (eT : T.heap = h) (F : own_Av Z h a .byte n f) {j : Int32} (hj : own_At j k) (hk : k < n) (hv : f k = v)
    {g : JFrame} (hg : g.method = m) {rest : List Value} (hs : g.stack = .int j :: .ref a :: rest) (hd : decode c.code g.pc = .ok (.baload, 1)) (t : State)
    (hr : Steps p.tables e below (T.setTop { g with pc := g.pc + 1, stack := v :: rest }) t) : Steps p.tables e below (T.setTop g) t := by
  obtain ⟨cl, A, S, H⟩ := F
  exact X.baloadBytes hx (by rw [eT]; exact A.1) (State.isArrayOf_alike hZ.alike A.2.1) A.2.2 (own_in hj hk S) (by rw [hj.2, H k hk, hv]) hg hs hd t hr
theorem own_ldZ (X : Stand p l e R s m args below meth c T locs cells slots) (hx : p.tables.exec = Jvm.exec) (hZ : Z.Warmed39 s.vm) (eT : T.heap = h) (F : own_Av Z h a .boolean n f) {j : Int32} (hj : own_At j k) (hk : k < n) (hv : f k = v)
    {g : JFrame} (hg : g.method = m) {rest : List Value} (hs : g.stack = .int j :: .ref a :: rest) (hd : decode c.code g.pc = .ok (.baload, 1)) (t : State)
    (hr : Steps p.tables e below (T.setTop { g with pc := g.pc + 1, stack := v :: rest }) t) : Steps p.tables e below (T.setTop g) t := by
  obtain ⟨cl, A, S, H⟩ := F
  exact X.baloadBooleans hx (by rw [eT]; exact A.1) (State.isArrayOf_alike hZ.alike A.2.1) A.2.2 (own_in hj hk S) (by rw [hj.2, H k hk, hv]) hg hs hd t hr
theorem own_len (X : Stand p l e R s m args below meth c T locs cells slots) (hx : p.tables.exec = Jvm.exec) (hZ : Z.Warmed39 s.vm) (eT : T.heap = h) (F : own_Av Z h a ty n f) {z : Int32} (hz : n.toInt32 = z)
    {g : JFrame} (hg : g.method = m) {rest : List Value} (hs : g.stack = .ref a :: rest) (hd : decode c.code g.pc = .ok (.arraylength, 1)) (t : State)
    (hr : Steps p.tables e below (T.setTop { g with pc := g.pc + 1, stack := .int z :: rest }) t) : Steps p.tables e below (T.setTop g) t := by
  obtain ⟨cl, A, S, H⟩ := F
  exact X.arraylength hx (by rw [eT]; exact A.1) (State.isArrayOf_alike hZ.alike A.2.1) hg hs hd t (by rw [S, hz]; exact hr)
theorem own_stI (X : Stand p l e R s m args below meth c T locs cells slots) (hx : p.tables.exec = Jvm.exec) (hZ : Z.Warmed39 s.vm) (eT : T.heap = h) (F : own_Av Z h a .int n f) {j x : Int32} (hj : own_At j k) (hk : k < n)
    {g : JFrame} (hg : g.method = m) {rest : List Value} (hs : g.stack = .int x :: .int j :: .ref a :: rest) (hd : decode c.code g.pc = .ok (.iastore, 1)) :
    ∃ T' h', Stand p l e R s m args below meth c T' (locs ++ [⟨a, k⟩]) cells slots ∧ T'.heap = h' ∧ Wr h h' a k (.int x) ∧ own_Av Z h' a .int n (own_upd f k (.int x)) ∧ ∀ target, Steps p.tables e below (T'.setTop { g with pc := g.pc + 1, stack := rest }) target → Steps p.tables e below (T.setTop g) target := by
  obtain ⟨cl, A, S, H⟩ := id F
  obtain ⟨T', h', X', e', W', st⟩ := stI X hx hZ eT A (own_in hj hk S) hg hs hd
  rw [hj.2] at X' W'
  exact ⟨T', h', X', e', W', F.set W', st⟩
theorem own_stJ (X : Stand p l e R s m args below meth c T locs cells slots) (hx : p.tables.exec = Jvm.exec) (hZ : Z.Warmed39 s.vm) (eT : T.heap = h) (F : own_Av Z h a .long n f) {j : Int32} {x : Int64} (hj : own_At j k) (hk : k < n)
    {g : JFrame} (hg : g.method = m) {rest : List Value} (hs : g.stack = .long x :: .int j :: .ref a :: rest) (hd : decode c.code g.pc = .ok (.lastore, 1)) :
    ∃ T' h', Stand p l e R s m args below meth c T' (locs ++ [⟨a, k⟩]) cells slots ∧ T'.heap = h' ∧ Wr h h' a k (.long x) ∧ own_Av Z h' a .long n (own_upd f k (.long x)) ∧ ∀ target, Steps p.tables e below (T'.setTop { g with pc := g.pc + 1, stack := rest }) target → Steps p.tables e below (T.setTop g) target := by
  obtain ⟨cl, A, S, H⟩ := id F
  obtain ⟨T', h', X', e', W', st⟩ := stJ X hx hZ eT A (own_in hj hk S) hg hs hd
  rw [hj.2] at X' W'
  exact ⟨T', h', X', e', W', F.set W', st⟩
theorem own_stB (X : Stand p l e R s m args below meth c T locs cells slots) (hx : p.tables.exec = Jvm.exec) (hZ : Z.Warmed39 s.vm) (eT : T.heap = h) (F : own_Av Z h a .byte n f) {j x : Int32} (hj : own_At j k) (hk : k < n)
    {g : JFrame} (hg : g.method = m) {rest : List Value} (hs : g.stack = .int x :: .int j :: .ref a :: rest) (hd : decode c.code g.pc = .ok (.bastore, 1)) :
    ∃ T' h', Stand p l e R s m args below meth c T' (locs ++ [⟨a, k⟩]) cells slots ∧ T'.heap = h' ∧ Wr h h' a k (.int x.toInt8.toInt32) ∧ own_Av Z h' a .byte n (own_upd f k (.int x.toInt8.toInt32)) ∧ ∀ target, Steps p.tables e below (T'.setTop { g with pc := g.pc + 1, stack := rest }) target → Steps p.tables e below (T.setTop g) target := by
  obtain ⟨cl, A, S, H⟩ := id F
  obtain ⟨T', h', X', e', W', st⟩ := stB X hx hZ eT A (own_in hj hk S) hg hs hd
  rw [hj.2] at X' W'
  exact ⟨T', h', X', e', W', F.set W', st⟩
theorem own_stZ (X : Stand p l e R s m args below meth c T locs cells slots) (hx : p.tables.exec = Jvm.exec) (hZ : Z.Warmed39 s.vm) (eT : T.heap = h) (F : own_Av Z h a .boolean n f) {j x : Int32} (hj : own_At j k) (hk : k < n)
    {g : JFrame} (hg : g.method = m) {rest : List Value} (hs : g.stack = .int x :: .int j :: .ref a :: rest) (hd : decode c.code g.pc = .ok (.bastore, 1)) :
    ∃ T' h', Stand p l e R s m args below meth c T' (locs ++ [⟨a, k⟩]) cells slots ∧ T'.heap = h' ∧ Wr h h' a k (.int (x &&& 1)) ∧ own_Av Z h' a .boolean n (own_upd f k (.int (x &&& 1))) ∧ ∀ target, Steps p.tables e below (T'.setTop { g with pc := g.pc + 1, stack := rest }) target → Steps p.tables e below (T.setTop g) target := by
  obtain ⟨cl, A, S, H⟩ := id F
  obtain ⟨T', h', X', e', W', st⟩ := stZ X hx hZ eT A (own_in hj hk S) hg hs hd
  rw [hj.2] at X' W'
  exact ⟨T', h', X', e', W', F.set W', st⟩
theorem own_stC (X : Stand p l e R s m args below meth c T locs cells slots) (hx : p.tables.exec = Jvm.exec) (hZ : Z.Warmed39 s.vm) (eT : T.heap = h) (F : own_Av Z h a .char n f) {j x : Int32} (hj : own_At j k) (hk : k < n)
    {g : JFrame} (hg : g.method = m) {rest : List Value} (hs : g.stack = .int x :: .int j :: .ref a :: rest) (hd : decode c.code g.pc = .ok (.castore, 1)) :
    ∃ T' h', Stand p l e R s m args below meth c T' (locs ++ [⟨a, k⟩]) cells slots ∧ T'.heap = h' ∧ Wr h h' a k (.int (nar .char x)) ∧ own_Av Z h' a .char n (own_upd f k (.int (nar .char x))) ∧ ∀ target, Steps p.tables e below (T'.setTop { g with pc := g.pc + 1, stack := rest }) target → Steps p.tables e below (T.setTop g) target := by
  obtain ⟨cl, A, S, H⟩ := id F
  obtain ⟨T', h', X', e', W', st⟩ := stC X hx hZ eT A (own_in hj hk S) hg hs hd
  rw [hj.2] at X' W'
  exact ⟨T', h', X', e', W', F.set W', st⟩
theorem own_stS (X : Stand p l e R s m args below meth c T locs cells slots) (hx : p.tables.exec = Jvm.exec) (hZ : Z.Warmed39 s.vm) (eT : T.heap = h) (F : own_Av Z h a .short n f) {j x : Int32} (hj : own_At j k) (hk : k < n)
    {g : JFrame} (hg : g.method = m) {rest : List Value} (hs : g.stack = .int x :: .int j :: .ref a :: rest) (hd : decode c.code g.pc = .ok (.sastore, 1)) :
    ∃ T' h', Stand p l e R s m args below meth c T' (locs ++ [⟨a, k⟩]) cells slots ∧ T'.heap = h' ∧ Wr h h' a k (.int (nar .short x)) ∧ own_Av Z h' a .short n (own_upd f k (.int (nar .short x))) ∧ ∀ target, Steps p.tables e below (T'.setTop { g with pc := g.pc + 1, stack := rest }) target → Steps p.tables e below (T.setTop g) target := by
  obtain ⟨cl, A, S, H⟩ := id F
  obtain ⟨T', h', X', e', W', st⟩ := stS X hx hZ eT A (own_in hj hk S) hg hs hd
  rw [hj.2] at X' W'
  exact ⟨T', h', X', e', W', F.set W', st⟩
end OwnArr
theorem own_selP {Z s : State} {a0 args : Array Value} {y : MethodName} {n : Nat} (hZ : Z.Warmed39 s.vm) (wi : (Cond.instantiable y.cls n).before a0 Z = true) (wp : (Cond.privateMethod y).before a0 Z = true) (wm : (Cond.instanceMethod y).before a0 Z = true)
    (hy : y.cls ≠ "java/lang/invoke/MethodHandle" ∧ y.cls ≠ "java/lang/invoke/VarHandle") : (Cond.selects y.cls y y).before args s = true := by
  have w : (Cond.instantiable y.cls n).before args s = true := mvT hZ wi
  obtain ⟨c, k, h1, h2, -, h4, -⟩ := Cond.instantiable_spec w
  exact Jvm.Stand.selects_self_of_private h1 h2 (Bool.or_eq_false_iff.mp h4).1 (Cond.privateMethod_at (mvP hZ wp (args := args))) (mvT hZ wm) hy
theorem own_narZ {x : Int32} (h : x &&& 1 = x) : narrow .boolean (.int x) = .int x := by
  show Value.int (x &&& 1) = _
  rw [h]
theorem own_fitZ {x : Int32} (h : x &&& 1 = x) : fits .boolean (.int x) = true := by
  have q := fits_nar_bool x
  rw [show nar .boolean x = x from h] at q
  exact q
theorem own_mono {p : Program} {e : Env} {below : List Frame} {s T : State} {g : JFrame} {Q Q' : Option Value → Heap → List Loc → Prop} {k j : Nat} (h : ∀ v h L, Q v h L → Q' v h L) (G : own_Go p e below T g (own_Fin s Q k j)) : own_Go p e below T g (own_Fin s Q' k j) := by
  obtain ⟨s₂, o, h1, h2, h3, v, L, h4, h5, h6⟩ := G
  exact ⟨s₂, o, h1, h2, h3, v, L, h4, h _ _ _ h5, h6⟩
theorem own_ofs (i : Nat) : Int32.ofNat i + (1 : Int32) = Int32.ofNat (i + 1) := (Int32.ofNat_add i 1).symm
theorem own_toI {i : Nat} (h : i < 2147483648) : (Int32.ofNat i).toInt = i := Int32.toInt_ofNat_small h
theorem own_ix {i : Nat} (h : i < 2147483648) : own_At (Int32.ofNat i) i := by
  have e := own_toI h
  refine ⟨?_, ?_⟩
  · rw [Int32.lt_iff_toInt_lt, e, show (0 : Int32).toInt = 0 from by decide]; omega
  · simp only [Int32.toNatClampNeg, e]; omega
theorem own_oflt {i n : Nat} (hi : i < 2147483648) (hn : n < 2147483648) : Int32.ofNat i < Int32.ofNat n ↔ i < n := by
  rw [Int32.lt_iff_toInt_lt, own_toI hi, own_toI hn]; omega
theorem own_ofeq {i n : Nat} (hi : i < 2147483648) (hn : n < 2147483648) : Int32.ofNat i = Int32.ofNat n ↔ i = n := by
  rw [← Int32.toInt_inj, own_toI hi, own_toI hn]; omega
def own_fl (F : Nat → Int32) (i : Nat) (g : Nat → Value) (j : Nat) : Value := if j < i then .int (F j) else g j
theorem own_fl_up (F : Nat → Int32) (i : Nat) (g : Nat → Value) : ∀ j, own_upd (own_fl F i g) i (.int (F i)) j = own_fl F (i + 1) g j := fun j => by
  unfold own_fl
  by_cases q : j = i
  · subst q; rw [own_upd_hit rfl, if_pos (by omega)]
  · rw [own_upd_miss q]
    by_cases q2 : j < i
    · rw [if_pos q2, if_pos (by omega)]
    · rw [if_neg q2, if_neg (by omega)]
theorem own_fl0 (F : Nat → Int32) (g : Nat → Value) : ∀ j, g j = own_fl F 0 g j := fun j => by unfold own_fl; rw [if_neg (by omega)]
theorem own_fl_in {F : Nat → Int32} {i j : Nat} {g : Nat → Value} (h : j < i) : own_fl F i g j = .int (F j) := if_pos h
theorem own_fl_out {F : Nat → Int32} {i j : Nat} {g : Nat → Value} (h : ¬ j < i) : own_fl F i g j = g j := if_neg h

/-! single steps over own_Go -/
theorem own_s_iadd {p : Program} {e : Env} {below : List Frame} {T : State} {m : MethodId} {c : Code} {Φ : Outcome → State → Prop} {pc : Nat} {L : Array Slot} {S : List Value} (h : At T m c below) (hx : p.tables.exec = Jvm.exec) {x y : Int32} (hd : decode c.code pc = .ok (.iadd, 1)) (G : own_Go p e below T (mkF m (pc + 1) L (.int (x + y) :: S)) Φ) : own_Go p e below T (mkF m pc L (.int y :: .int x :: S)) Φ := own_by (fun t k => XS.iadd h hx rfl hd rfl k) G
theorem own_s_isub {p : Program} {e : Env} {below : List Frame} {T : State} {m : MethodId} {c : Code} {Φ : Outcome → State → Prop} {pc : Nat} {L : Array Slot} {S : List Value} (h : At T m c below) (hx : p.tables.exec = Jvm.exec) {x y : Int32} (hd : decode c.code pc = .ok (.isub, 1)) (G : own_Go p e below T (mkF m (pc + 1) L (.int (x - y) :: S)) Φ) : own_Go p e below T (mkF m pc L (.int y :: .int x :: S)) Φ := own_by (fun t k => XS.isub h hx rfl hd rfl k) G
theorem own_s_imul {p : Program} {e : Env} {below : List Frame} {T : State} {m : MethodId} {c : Code} {Φ : Outcome → State → Prop} {pc : Nat} {L : Array Slot} {S : List Value} (h : At T m c below) (hx : p.tables.exec = Jvm.exec) {x y : Int32} (hd : decode c.code pc = .ok (.imul, 1)) (G : own_Go p e below T (mkF m (pc + 1) L (.int (x * y) :: S)) Φ) : own_Go p e below T (mkF m pc L (.int y :: .int x :: S)) Φ := own_by (fun t k => XS.imul h hx rfl hd rfl k) G
theorem own_s_iand {p : Program} {e : Env} {below : List Frame} {T : State} {m : MethodId} {c : Code} {Φ : Outcome → State → Prop} {pc : Nat} {L : Array Slot} {S : List Value} (h : At T m c below) (hx : p.tables.exec = Jvm.exec) {x y : Int32} (hd : decode c.code pc = .ok (.iand, 1)) (G : own_Go p e below T (mkF m (pc + 1) L (.int (x &&& y) :: S)) Φ) : own_Go p e below T (mkF m pc L (.int y :: .int x :: S)) Φ := own_by (fun t k => XS.iand h hx rfl hd rfl k) G
theorem own_s_ior {p : Program} {e : Env} {below : List Frame} {T : State} {m : MethodId} {c : Code} {Φ : Outcome → State → Prop} {pc : Nat} {L : Array Slot} {S : List Value} (h : At T m c below) (hx : p.tables.exec = Jvm.exec) {x y : Int32} (hd : decode c.code pc = .ok (.ior, 1)) (G : own_Go p e below T (mkF m (pc + 1) L (.int (x ||| y) :: S)) Φ) : own_Go p e below T (mkF m pc L (.int y :: .int x :: S)) Φ := own_by (fun t k => XS.ior h hx rfl hd rfl k) G
theorem own_s_ixor {p : Program} {e : Env} {below : List Frame} {T : State} {m : MethodId} {c : Code} {Φ : Outcome → State → Prop} {pc : Nat} {L : Array Slot} {S : List Value} (h : At T m c below) (hx : p.tables.exec = Jvm.exec) {x y : Int32} (hd : decode c.code pc = .ok (.ixor, 1)) (G : own_Go p e below T (mkF m (pc + 1) L (.int (x ^^^ y) :: S)) Φ) : own_Go p e below T (mkF m pc L (.int y :: .int x :: S)) Φ := own_by (fun t k => XS.ixor h hx rfl hd rfl k) G
theorem own_s_ladd {p : Program} {e : Env} {below : List Frame} {T : State} {m : MethodId} {c : Code} {Φ : Outcome → State → Prop} {pc : Nat} {L : Array Slot} {S : List Value} (h : At T m c below) (hx : p.tables.exec = Jvm.exec) {x y : Int64} (hd : decode c.code pc = .ok (.ladd, 1)) (G : own_Go p e below T (mkF m (pc + 1) L (.long (x + y) :: S)) Φ) : own_Go p e below T (mkF m pc L (.long y :: .long x :: S)) Φ := own_by (fun t k => XS.ladd h hx rfl hd rfl k) G
theorem own_s_lsub {p : Program} {e : Env} {below : List Frame} {T : State} {m : MethodId} {c : Code} {Φ : Outcome → State → Prop} {pc : Nat} {L : Array Slot} {S : List Value} (h : At T m c below) (hx : p.tables.exec = Jvm.exec) {x y : Int64} (hd : decode c.code pc = .ok (.lsub, 1)) (G : own_Go p e below T (mkF m (pc + 1) L (.long (x - y) :: S)) Φ) : own_Go p e below T (mkF m pc L (.long y :: .long x :: S)) Φ := own_by (fun t k => XS.lsub h hx rfl hd rfl k) G
theorem own_s_lmul {p : Program} {e : Env} {below : List Frame} {T : State} {m : MethodId} {c : Code} {Φ : Outcome → State → Prop} {pc : Nat} {L : Array Slot} {S : List Value} (h : At T m c below) (hx : p.tables.exec = Jvm.exec) {x y : Int64} (hd : decode c.code pc = .ok (.lmul, 1)) (G : own_Go p e below T (mkF m (pc + 1) L (.long (x * y) :: S)) Φ) : own_Go p e below T (mkF m pc L (.long y :: .long x :: S)) Φ := own_by (fun t k => XS.lmul h hx rfl hd rfl k) G
theorem own_s_land {p : Program} {e : Env} {below : List Frame} {T : State} {m : MethodId} {c : Code} {Φ : Outcome → State → Prop} {pc : Nat} {L : Array Slot} {S : List Value} (h : At T m c below) (hx : p.tables.exec = Jvm.exec) {x y : Int64} (hd : decode c.code pc = .ok (.land, 1)) (G : own_Go p e below T (mkF m (pc + 1) L (.long (x &&& y) :: S)) Φ) : own_Go p e below T (mkF m pc L (.long y :: .long x :: S)) Φ := own_by (fun t k => XS.land h hx rfl hd rfl k) G
theorem own_s_lor {p : Program} {e : Env} {below : List Frame} {T : State} {m : MethodId} {c : Code} {Φ : Outcome → State → Prop} {pc : Nat} {L : Array Slot} {S : List Value} (h : At T m c below) (hx : p.tables.exec = Jvm.exec) {x y : Int64} (hd : decode c.code pc = .ok (.lor, 1)) (G : own_Go p e below T (mkF m (pc + 1) L (.long (x ||| y) :: S)) Φ) : own_Go p e below T (mkF m pc L (.long y :: .long x :: S)) Φ := own_by (fun t k => XS.lor h hx rfl hd rfl k) G
theorem own_s_lxor {p : Program} {e : Env} {below : List Frame} {T : State} {m : MethodId} {c : Code} {Φ : Outcome → State → Prop} {pc : Nat} {L : Array Slot} {S : List Value} (h : At T m c below) (hx : p.tables.exec = Jvm.exec) {x y : Int64} (hd : decode c.code pc = .ok (.lxor, 1)) (G : own_Go p e below T (mkF m (pc + 1) L (.long (x ^^^ y) :: S)) Φ) : own_Go p e below T (mkF m pc L (.long y :: .long x :: S)) Φ := own_by (fun t k => XS.lxor h hx rfl hd rfl k) G
theorem own_s_ishl {p : Program} {e : Env} {below : List Frame} {T : State} {m : MethodId} {c : Code} {Φ : Outcome → State → Prop} {pc : Nat} {L : Array Slot} {S : List Value} (h : At T m c below) (hx : p.tables.exec = Jvm.exec) {x y : Int32} (hd : decode c.code pc = .ok (.ishl, 1)) (G : own_Go p e below T (mkF m (pc + 1) L (.int (x <<< (y &&& 31)) :: S)) Φ) : own_Go p e below T (mkF m pc L (.int y :: .int x :: S)) Φ := own_by (fun t k => XS.ishl h hx rfl hd rfl k) G
theorem own_s_ishr {p : Program} {e : Env} {below : List Frame} {T : State} {m : MethodId} {c : Code} {Φ : Outcome → State → Prop} {pc : Nat} {L : Array Slot} {S : List Value} (h : At T m c below) (hx : p.tables.exec = Jvm.exec) {x y : Int32} (hd : decode c.code pc = .ok (.ishr, 1)) (G : own_Go p e below T (mkF m (pc + 1) L (.int (x >>> (y &&& 31)) :: S)) Φ) : own_Go p e below T (mkF m pc L (.int y :: .int x :: S)) Φ := own_by (fun t k => XS.ishr h hx rfl hd rfl k) G
theorem own_s_iushr {p : Program} {e : Env} {below : List Frame} {T : State} {m : MethodId} {c : Code} {Φ : Outcome → State → Prop} {pc : Nat} {L : Array Slot} {S : List Value} (h : At T m c below) (hx : p.tables.exec = Jvm.exec) {x y : Int32} (hd : decode c.code pc = .ok (.iushr, 1)) (G : own_Go p e below T (mkF m (pc + 1) L (.int ((x.toUInt32 >>> (y &&& 31).toUInt32).toInt32) :: S)) Φ) : own_Go p e below T (mkF m pc L (.int y :: .int x :: S)) Φ := own_by (fun t k => XS.iushr h hx rfl hd rfl k) G
theorem own_s_lshl {p : Program} {e : Env} {below : List Frame} {T : State} {m : MethodId} {c : Code} {Φ : Outcome → State → Prop} {pc : Nat} {L : Array Slot} {S : List Value} (h : At T m c below) (hx : p.tables.exec = Jvm.exec) {x : Int64} {y : Int32} (hd : decode c.code pc = .ok (.lshl, 1)) (G : own_Go p e below T (mkF m (pc + 1) L (.long (x <<< (y &&& 0x3f).toInt64) :: S)) Φ) : own_Go p e below T (mkF m pc L (.int y :: .long x :: S)) Φ := own_by (fun t k => XS.lshl h hx rfl hd rfl k) G
theorem own_s_lshr {p : Program} {e : Env} {below : List Frame} {T : State} {m : MethodId} {c : Code} {Φ : Outcome → State → Prop} {pc : Nat} {L : Array Slot} {S : List Value} (h : At T m c below) (hx : p.tables.exec = Jvm.exec) {x : Int64} {y : Int32} (hd : decode c.code pc = .ok (.lshr, 1)) (G : own_Go p e below T (mkF m (pc + 1) L (.long (x >>> (y &&& 0x3f).toInt64) :: S)) Φ) : own_Go p e below T (mkF m pc L (.int y :: .long x :: S)) Φ := own_by (fun t k => XS.lshr h hx rfl hd rfl k) G
theorem own_s_lushr {p : Program} {e : Env} {below : List Frame} {T : State} {m : MethodId} {c : Code} {Φ : Outcome → State → Prop} {pc : Nat} {L : Array Slot} {S : List Value} (h : At T m c below) (hx : p.tables.exec = Jvm.exec) {x : Int64} {y : Int32} (hd : decode c.code pc = .ok (.lushr, 1)) (G : own_Go p e below T (mkF m (pc + 1) L (.long ((x.toUInt64 >>> (y &&& 0x3f).toInt64.toUInt64).toInt64) :: S)) Φ) : own_Go p e below T (mkF m pc L (.int y :: .long x :: S)) Φ := own_by (fun t k => XS.lushr h hx rfl hd rfl k) G
theorem own_s_ineg {p : Program} {e : Env} {below : List Frame} {T : State} {m : MethodId} {c : Code} {Φ : Outcome → State → Prop} {pc : Nat} {L : Array Slot} {S : List Value} (h : At T m c below) (hx : p.tables.exec = Jvm.exec) {x : Int32} (hd : decode c.code pc = .ok (.ineg, 1)) (G : own_Go p e below T (mkF m (pc + 1) L (.int (-x) :: S)) Φ) : own_Go p e below T (mkF m pc L (.int x :: S)) Φ := own_by (fun t k => XS.ineg h hx rfl hd rfl k) G
theorem own_s_lneg {p : Program} {e : Env} {below : List Frame} {T : State} {m : MethodId} {c : Code} {Φ : Outcome → State → Prop} {pc : Nat} {L : Array Slot} {S : List Value} (h : At T m c below) (hx : p.tables.exec = Jvm.exec) {x : Int64} (hd : decode c.code pc = .ok (.lneg, 1)) (G : own_Go p e below T (mkF m (pc + 1) L (.long (-x) :: S)) Φ) : own_Go p e below T (mkF m pc L (.long x :: S)) Φ := own_by (fun t k => XS.lneg h hx rfl hd rfl k) G
theorem own_s_i2l {p : Program} {e : Env} {below : List Frame} {T : State} {m : MethodId} {c : Code} {Φ : Outcome → State → Prop} {pc : Nat} {L : Array Slot} {S : List Value} (h : At T m c below) (hx : p.tables.exec = Jvm.exec) {x : Int32} (hd : decode c.code pc = .ok (.i2l, 1)) (G : own_Go p e below T (mkF m (pc + 1) L (.long (x.toInt64) :: S)) Φ) : own_Go p e below T (mkF m pc L (.int x :: S)) Φ := own_by (fun t k => XS.i2l h hx rfl hd rfl k) G
theorem own_s_l2i {p : Program} {e : Env} {below : List Frame} {T : State} {m : MethodId} {c : Code} {Φ : Outcome → State → Prop} {pc : Nat} {L : Array Slot} {S : List Value} (h : At T m c below) (hx : p.tables.exec = Jvm.exec) {x : Int64} (hd : decode c.code pc = .ok (.l2i, 1)) (G : own_Go p e below T (mkF m (pc + 1) L (.int (x.toInt32) :: S)) Φ) : own_Go p e below T (mkF m pc L (.long x :: S)) Φ := own_by (fun t k => XS.l2i h hx rfl hd rfl k) G
theorem own_s_i2b {p : Program} {e : Env} {below : List Frame} {T : State} {m : MethodId} {c : Code} {Φ : Outcome → State → Prop} {pc : Nat} {L : Array Slot} {S : List Value} (h : At T m c below) (hx : p.tables.exec = Jvm.exec) {x : Int32} (hd : decode c.code pc = .ok (.i2b, 1)) (G : own_Go p e below T (mkF m (pc + 1) L (.int (x.toInt8.toInt32) :: S)) Φ) : own_Go p e below T (mkF m pc L (.int x :: S)) Φ := own_by (fun t k => XS.i2b h hx rfl hd rfl k) G
theorem own_s_i2s {p : Program} {e : Env} {below : List Frame} {T : State} {m : MethodId} {c : Code} {Φ : Outcome → State → Prop} {pc : Nat} {L : Array Slot} {S : List Value} (h : At T m c below) (hx : p.tables.exec = Jvm.exec) {x : Int32} (hd : decode c.code pc = .ok (.i2s, 1)) (G : own_Go p e below T (mkF m (pc + 1) L (.int (x.toInt16.toInt32) :: S)) Φ) : own_Go p e below T (mkF m pc L (.int x :: S)) Φ := own_by (fun t k => XS.i2s h hx rfl hd rfl k) G
theorem own_s_i2c {p : Program} {e : Env} {below : List Frame} {T : State} {m : MethodId} {c : Code} {Φ : Outcome → State → Prop} {pc : Nat} {L : Array Slot} {S : List Value} (h : At T m c below) (hx : p.tables.exec = Jvm.exec) {x : Int32} (hd : decode c.code pc = .ok (.i2c, 1)) (G : own_Go p e below T (mkF m (pc + 1) L (.int (x.toUInt32.toUInt16.toUInt32.toInt32) :: S)) Φ) : own_Go p e below T (mkF m pc L (.int x :: S)) Φ := own_by (fun t k => XS.i2c h hx rfl hd rfl k) G
theorem own_s_iloadN {p : Program} {e : Env} {below : List Frame} {T : State} {m : MethodId} {c : Code} {Φ : Outcome → State → Prop} {pc : Nat} {L : Array Slot} {S : List Value} (h : At T m c below) (hx : p.tables.exec = Jvm.exec) {i : Fin 4} {v : Int32} (hd : decode c.code pc = .ok (.iload_n i, 1)) (hl : L[i.val]? = some (.val (.int v))) (G : own_Go p e below T (mkF m (pc + 1) L (.int v :: S)) Φ) : own_Go p e below T (mkF m pc L S) Φ := own_by (fun t k => XS.iloadN h hx rfl hd hl k) G
theorem own_s_iload {p : Program} {e : Env} {below : List Frame} {T : State} {m : MethodId} {c : Code} {Φ : Outcome → State → Prop} {pc : Nat} {L : Array Slot} {S : List Value} (h : At T m c below) (hx : p.tables.exec = Jvm.exec) {i : Nat} {v : Int32} (hd : decode c.code pc = .ok (.iload i, 2)) (hl : L[i]? = some (.val (.int v))) (G : own_Go p e below T (mkF m (pc + 2) L (.int v :: S)) Φ) : own_Go p e below T (mkF m pc L S) Φ := own_by (fun t k => XS.iload h hx rfl hd hl k) G
theorem own_s_lloadN {p : Program} {e : Env} {below : List Frame} {T : State} {m : MethodId} {c : Code} {Φ : Outcome → State → Prop} {pc : Nat} {L : Array Slot} {S : List Value} (h : At T m c below) (hx : p.tables.exec = Jvm.exec) {i : Fin 4} {v : Int64} (hd : decode c.code pc = .ok (.lload_n i, 1)) (hl : L[i.val]? = some (.val (.long v))) (G : own_Go p e below T (mkF m (pc + 1) L (.long v :: S)) Φ) : own_Go p e below T (mkF m pc L S) Φ := own_by (fun t k => XS.lloadN h hx rfl hd hl k) G
theorem own_s_lload {p : Program} {e : Env} {below : List Frame} {T : State} {m : MethodId} {c : Code} {Φ : Outcome → State → Prop} {pc : Nat} {L : Array Slot} {S : List Value} (h : At T m c below) (hx : p.tables.exec = Jvm.exec) {i : Nat} {v : Int64} (hd : decode c.code pc = .ok (.lload i, 2)) (hl : L[i]? = some (.val (.long v))) (G : own_Go p e below T (mkF m (pc + 2) L (.long v :: S)) Φ) : own_Go p e below T (mkF m pc L S) Φ := own_by (fun t k => XS.lload h hx rfl hd hl k) G
theorem own_s_aloadN {p : Program} {e : Env} {below : List Frame} {T : State} {m : MethodId} {c : Code} {Φ : Outcome → State → Prop} {pc : Nat} {L : Array Slot} {S : List Value} (h : At T m c below) (hx : p.tables.exec = Jvm.exec) {i : Fin 4} {v : Value} (hd : decode c.code pc = .ok (.aload_n i, 1)) (hl : L[i.val]? = some (.val v)) (hv : v.isRef = true) (G : own_Go p e below T (mkF m (pc + 1) L (v :: S)) Φ) : own_Go p e below T (mkF m pc L S) Φ := own_by (fun t k => XS.aloadN h hx rfl hd hl hv k) G
theorem own_s_aload {p : Program} {e : Env} {below : List Frame} {T : State} {m : MethodId} {c : Code} {Φ : Outcome → State → Prop} {pc : Nat} {L : Array Slot} {S : List Value} (h : At T m c below) (hx : p.tables.exec = Jvm.exec) {i : Nat} {v : Value} (hd : decode c.code pc = .ok (.aload i, 2)) (hl : L[i]? = some (.val v)) (hv : v.isRef = true) (G : own_Go p e below T (mkF m (pc + 2) L (v :: S)) Φ) : own_Go p e below T (mkF m pc L S) Φ := own_by (fun t k => XS.aload h hx rfl hd hl hv k) G
theorem own_s_istoreN {p : Program} {e : Env} {below : List Frame} {T : State} {m : MethodId} {c : Code} {Φ : Outcome → State → Prop} {pc : Nat} {L : Array Slot} {S : List Value} (h : At T m c below) (hx : p.tables.exec = Jvm.exec) {i : Fin 4} {v : Int32} (L' : Array Slot) (hd : decode c.code pc = .ok (.istore_n i, 1)) (hl : storeLocals L i.val (.int v) = some L') (G : own_Go p e below T (mkF m (pc + 1) L' S) Φ) : own_Go p e below T (mkF m pc L (.int v :: S)) Φ := own_by (fun t k => XS.istoreN h hx rfl hd rfl hl k) G
theorem own_s_istore {p : Program} {e : Env} {below : List Frame} {T : State} {m : MethodId} {c : Code} {Φ : Outcome → State → Prop} {pc : Nat} {L : Array Slot} {S : List Value} (h : At T m c below) (hx : p.tables.exec = Jvm.exec) {i : Nat} {v : Int32} (L' : Array Slot) (hd : decode c.code pc = .ok (.istore i, 2)) (hl : storeLocals L i (.int v) = some L') (G : own_Go p e below T (mkF m (pc + 2) L' S) Φ) : own_Go p e below T (mkF m pc L (.int v :: S)) Φ := own_by (fun t k => XS.istore h hx rfl hd rfl hl k) G
theorem own_s_lstoreN {p : Program} {e : Env} {below : List Frame} {T : State} {m : MethodId} {c : Code} {Φ : Outcome → State → Prop} {pc : Nat} {L : Array Slot} {S : List Value} (h : At T m c below) (hx : p.tables.exec = Jvm.exec) {i : Fin 4} {v : Int64} (L' : Array Slot) (hd : decode c.code pc = .ok (.lstore_n i, 1)) (hl : storeLocals L i.val (.long v) = some L') (G : own_Go p e below T (mkF m (pc + 1) L' S) Φ) : own_Go p e below T (mkF m pc L (.long v :: S)) Φ := own_by (fun t k => XS.lstoreN h hx rfl hd rfl hl k) G
theorem own_s_lstore {p : Program} {e : Env} {below : List Frame} {T : State} {m : MethodId} {c : Code} {Φ : Outcome → State → Prop} {pc : Nat} {L : Array Slot} {S : List Value} (h : At T m c below) (hx : p.tables.exec = Jvm.exec) {i : Nat} {v : Int64} (L' : Array Slot) (hd : decode c.code pc = .ok (.lstore i, 2)) (hl : storeLocals L i (.long v) = some L') (G : own_Go p e below T (mkF m (pc + 2) L' S) Φ) : own_Go p e below T (mkF m pc L (.long v :: S)) Φ := own_by (fun t k => XS.lstore h hx rfl hd rfl hl k) G
theorem own_s_astoreN {p : Program} {e : Env} {below : List Frame} {T : State} {m : MethodId} {c : Code} {Φ : Outcome → State → Prop} {pc : Nat} {L : Array Slot} {S : List Value} (h : At T m c below) (hx : p.tables.exec = Jvm.exec) {i : Fin 4} {v : Value} (L' : Array Slot) (hd : decode c.code pc = .ok (.astore_n i, 1)) (hv : v.isRef = true) (hl : storeLocals L i.val v = some L') (G : own_Go p e below T (mkF m (pc + 1) L' S) Φ) : own_Go p e below T (mkF m pc L (v :: S)) Φ := own_by (fun t k => XS.astoreN h hx rfl hd rfl hv hl k) G
theorem own_s_astore {p : Program} {e : Env} {below : List Frame} {T : State} {m : MethodId} {c : Code} {Φ : Outcome → State → Prop} {pc : Nat} {L : Array Slot} {S : List Value} (h : At T m c below) (hx : p.tables.exec = Jvm.exec) {i : Nat} {v : Value} (L' : Array Slot) (hd : decode c.code pc = .ok (.astore i, 2)) (hv : v.isRef = true) (hl : storeLocals L i v = some L') (G : own_Go p e below T (mkF m (pc + 2) L' S) Φ) : own_Go p e below T (mkF m pc L (v :: S)) Φ := own_by (fun t k => XS.astore h hx rfl hd rfl hv hl k) G
theorem own_s_iconst {p : Program} {e : Env} {below : List Frame} {T : State} {m : MethodId} {c : Code} {Φ : Outcome → State → Prop} {pc : Nat} {L : Array Slot} {S : List Value} (h : At T m c below) (hx : p.tables.exec = Jvm.exec) {i : Int} (v : Int32) (hd : decode c.code pc = .ok (.iconst i, 1)) (hv : Int32.ofInt i = v) (G : own_Go p e below T (mkF m (pc + 1) L (.int v :: S)) Φ) : own_Go p e below T (mkF m pc L S) Φ := own_by (fun t k => XS.iconst h hx rfl hd (by rw [hv]; exact k)) G
theorem own_s_bipush {p : Program} {e : Env} {below : List Frame} {T : State} {m : MethodId} {c : Code} {Φ : Outcome → State → Prop} {pc : Nat} {L : Array Slot} {S : List Value} (h : At T m c below) (hx : p.tables.exec = Jvm.exec) {i : Int} (v : Int32) (hd : decode c.code pc = .ok (.bipush i, 2)) (hv : (Int8.ofInt i).toInt32 = v) (G : own_Go p e below T (mkF m (pc + 2) L (.int v :: S)) Φ) : own_Go p e below T (mkF m pc L S) Φ := own_by (fun t k => XS.bipush h hx rfl hd (by rw [hv]; exact k)) G
theorem own_s_sipush {p : Program} {e : Env} {below : List Frame} {T : State} {m : MethodId} {c : Code} {Φ : Outcome → State → Prop} {pc : Nat} {L : Array Slot} {S : List Value} (h : At T m c below) (hx : p.tables.exec = Jvm.exec) {i : Int} (v : Int32) (hd : decode c.code pc = .ok (.sipush i, 3)) (hv : (Int16.ofInt i).toInt32 = v) (G : own_Go p e below T (mkF m (pc + 3) L (.int v :: S)) Φ) : own_Go p e below T (mkF m pc L S) Φ := own_by (fun t k => XS.sipush h hx rfl hd (by rw [hv]; exact k)) G
theorem own_s_lconst {p : Program} {e : Env} {below : List Frame} {T : State} {m : MethodId} {c : Code} {Φ : Outcome → State → Prop} {pc : Nat} {L : Array Slot} {S : List Value} (h : At T m c below) (hx : p.tables.exec = Jvm.exec) {i : Fin 2} (v : Int64) (hd : decode c.code pc = .ok (.lconst i, 1)) (hv : Int64.ofNat i = v) (G : own_Go p e below T (mkF m (pc + 1) L (.long v :: S)) Φ) : own_Go p e below T (mkF m pc L S) Φ := own_by (fun t k => XS.lconst h hx rfl hd (by rw [hv]; exact k)) G
theorem own_s_goto {p : Program} {e : Env} {below : List Frame} {T : State} {m : MethodId} {c : Code} {Φ : Outcome → State → Prop} {pc : Nat} {L : Array Slot} {S : List Value} (h : At T m c below) (hx : p.tables.exec = Jvm.exec) {o : Int} (pc' : Nat) (hd : decode c.code pc = .ok (.goto o, 3)) (ho : 0 ≤ (pc : Int) + o) (hp : ((pc : Int) + o).toNat = pc') (G : own_Go p e below T (mkF m pc' L S) Φ) : own_Go p e below T (mkF m pc L S) Φ := own_by (fun t k => XS.goto h hx rfl rfl hd ho hp k) G
theorem own_s_ifYes {p : Program} {e : Env} {below : List Frame} {T : State} {m : MethodId} {c : Code} {Φ : Outcome → State → Prop} {pc : Nat} {L : Array Slot} {S : List Value} (h : At T m c below) (hx : p.tables.exec = Jvm.exec) {cd : ClassFile.Cond} {x : Int32} {o : Int} (pc' : Nat) (hd : decode c.code pc = .ok (.ifCond cd o, 3)) (hc : ifCond.holds cd x = true) (ho : 0 ≤ (pc : Int) + o) (hp : ((pc : Int) + o).toNat = pc') (G : own_Go p e below T (mkF m pc' L S) Φ) : own_Go p e below T (mkF m pc L (.int x :: S)) Φ := own_by (fun t k => XS.ifYes h hx rfl rfl hd rfl hc ho hp k) G
theorem own_s_ifNo {p : Program} {e : Env} {below : List Frame} {T : State} {m : MethodId} {c : Code} {Φ : Outcome → State → Prop} {pc : Nat} {L : Array Slot} {S : List Value} (h : At T m c below) (hx : p.tables.exec = Jvm.exec) {cd : ClassFile.Cond} {x : Int32} {o : Int} (hd : decode c.code pc = .ok (.ifCond cd o, 3)) (hc : ifCond.holds cd x = false) (G : own_Go p e below T (mkF m (pc + 3) L S) Φ) : own_Go p e below T (mkF m pc L (.int x :: S)) Φ := own_by (fun t k => XS.ifNo h hx rfl hd rfl hc k) G
theorem own_s_icmpYes {p : Program} {e : Env} {below : List Frame} {T : State} {m : MethodId} {c : Code} {Φ : Outcome → State → Prop} {pc : Nat} {L : Array Slot} {S : List Value} (h : At T m c below) (hx : p.tables.exec = Jvm.exec) {cd : ClassFile.Cond} {x y : Int32} {o : Int} (pc' : Nat) (hd : decode c.code pc = .ok (.if_icmp cd o, 3)) (hc : if_icmp.holds cd x y = true) (ho : 0 ≤ (pc : Int) + o) (hp : ((pc : Int) + o).toNat = pc') (G : own_Go p e below T (mkF m pc' L S) Φ) : own_Go p e below T (mkF m pc L (.int y :: .int x :: S)) Φ := own_by (fun t k => XS.icmpYes h hx rfl rfl hd rfl hc ho hp k) G
theorem own_s_icmpNo {p : Program} {e : Env} {below : List Frame} {T : State} {m : MethodId} {c : Code} {Φ : Outcome → State → Prop} {pc : Nat} {L : Array Slot} {S : List Value} (h : At T m c below) (hx : p.tables.exec = Jvm.exec) {cd : ClassFile.Cond} {x y : Int32} {o : Int} (hd : decode c.code pc = .ok (.if_icmp cd o, 3)) (hc : if_icmp.holds cd x y = false) (G : own_Go p e below T (mkF m (pc + 3) L S) Φ) : own_Go p e below T (mkF m pc L (.int y :: .int x :: S)) Φ := own_by (fun t k => XS.icmpNo h hx rfl hd rfl hc k) G
theorem own_s_lcmp {p : Program} {e : Env} {below : List Frame} {T : State} {m : MethodId} {c : Code} {Φ : Outcome → State → Prop} {pc : Nat} {L : Array Slot} {S : List Value} (h : At T m c below) (hx : p.tables.exec = Jvm.exec) {x y : Int64} (hd : decode c.code pc = .ok (.lcmp, 1)) (G : own_Go p e below T (mkF m (pc + 1) L (.int (Jvm.Free.XT.cmpL x y) :: S)) Φ) : own_Go p e below T (mkF m pc L (.long y :: .long x :: S)) Φ := own_by (fun t k => Jvm.Free.XT.lcmp h hx rfl hd rfl k) G
theorem own_s_dup {p : Program} {e : Env} {below : List Frame} {T : State} {m : MethodId} {c : Code} {Φ : Outcome → State → Prop} {pc : Nat} {L : Array Slot} {S : List Value} (h : At T m c below) (hx : p.tables.exec = Jvm.exec) {x : Value} (hd : decode c.code pc = .ok (.dup, 1)) (hc : x.category = 1) (G : own_Go p e below T (mkF m (pc + 1) L (x :: x :: S)) Φ) : own_Go p e below T (mkF m pc L (x :: S)) Φ := own_by (fun t k => XS.dup h hx rfl hd rfl hc k) G
theorem own_s_pop {p : Program} {e : Env} {below : List Frame} {T : State} {m : MethodId} {c : Code} {Φ : Outcome → State → Prop} {pc : Nat} {L : Array Slot} {S : List Value} (h : At T m c below) (hx : p.tables.exec = Jvm.exec) {x : Value} (hd : decode c.code pc = .ok (.pop, 1)) (hc : x.category = 1) (G : own_Go p e below T (mkF m (pc + 1) L S) Φ) : own_Go p e below T (mkF m pc L (x :: S)) Φ := own_by (fun t k => XS.pop h hx rfl hd rfl hc k) G

theorem own_d4_0 : decode jdk_41_method_13_code 0 = .ok (.iload_n 2, 1) := by decide +kernel
theorem own_d4_1 : decode jdk_41_method_13_code 1 = .ok (.iload_n 0, 1) := by decide +kernel
theorem own_d4_2 : decode jdk_41_method_13_code 2 = .ok (.ior, 1) := by decide +kernel
theorem own_d4_3 : decode jdk_41_method_13_code 3 = .ok (.iload_n 1, 1) := by decide +kernel
theorem own_d4_4 : decode jdk_41_method_13_code 4 = .ok (.ior, 1) := by decide +kernel
theorem own_d4_5 : decode jdk_41_method_13_code 5 = .ok (.ifCond .lt 10, 3) := by decide +kernel
theorem own_d4_8 : decode jdk_41_method_13_code 8 = .ok (.iload_n 1, 1) := by decide +kernel
theorem own_d4_9 : decode jdk_41_method_13_code 9 = .ok (.iload_n 2, 1) := by decide +kernel
theorem own_d4_10 : decode jdk_41_method_13_code 10 = .ok (.iload_n 0, 1) := by decide +kernel
theorem own_d4_11 : decode jdk_41_method_13_code 11 = .ok (.isub, 1) := by decide +kernel
theorem own_d4_12 : decode jdk_41_method_13_code 12 = .ok (.if_icmp .le 11, 3) := by decide +kernel
theorem own_d4_15 : decode jdk_41_method_13_code 15 = .ok (.aload_n 3, 1) := by decide +kernel
theorem own_d4_16 : decode jdk_41_method_13_code 16 = .ok (.iload_n 0, 1) := by decide +kernel
theorem own_d4_17 : decode jdk_41_method_13_code 17 = .ok (.iload_n 1, 1) := by decide +kernel
theorem own_d4_18 : decode jdk_41_method_13_code 18 = .ok (.iload_n 2, 1) := by decide +kernel
theorem own_d4_19 : decode jdk_41_method_13_code 19 = .ok (.invokestatic 103, 3) := by decide +kernel
theorem own_d4_22 : decode jdk_41_method_13_code 22 = .ok (.athrow, 1) := by decide +kernel
theorem own_d4_23 : decode jdk_41_method_13_code 23 = .ok (.iload_n 0, 1) := by decide +kernel
theorem own_d4_24 : decode jdk_41_method_13_code 24 = .ok (.ireturn, 1) := by decide +kernel
theorem own_pn_Preconditions : plainName "jdk/internal/util/Preconditions" = true := by first | (simp [plainName, overriddenIn]; done) | decide +kernel
theorem own_ef4n (m : MethodId) (u0 : Int32) (u1 : Int32) (u2 : Int32) : entryFrame m #[(.int u0), (.int u1), (.int u2), .null] 4 = mkF m 0 #[.val (.int u0), .val (.int u1), .val (.int u2), .val .null] [] := by first | (simp [entryFrame, mkF, argsToLocals, Value.category]; done) | rfl
def own_q_own_r4 (Z : State) (u0 : Int32) (u1 : Int32) (u2 : Int32) (h0 : Heap) (n0 : Nat) (v : Option Value) (h : Heap) (L : List Loc) : Prop := v = some (.int u0) ∧ Fr n0 L ∧ h = h0
set_option maxRecDepth 65536 in
set_option maxHeartbeats 40000000 in
theorem own_r4 (l : Launch) (Z : State) (a0 : Array Value) (hw : ∀ d ∈ tables_1, d.before a0 Z = true) (ws : List Jvm.Cond) (u0 : Int32) (u1 : Int32) (u2 : Int32) (h0 : Heap) (n0 : Nat) (Z0 : n0 ≤ h0.size) (hk1 : ¬ ((u2 ||| u0) ||| u1) < 0) (hk2 : ¬ (u2 - u0) < u1) :
    MetFree l (⟨"jdk/internal/util/Preconditions", "checkFromIndexSize", "(IIILjava/util/function/BiFunction;)I"⟩ : MethodName) (head1 (Jvm.Cond.code (⟨"jdk/internal/util/Preconditions", "checkFromIndexSize", "(IIILjava/util/function/BiFunction;)I"⟩ : MethodName) jdk_41_method_13_code 4 (some .int) :: ws) ({ frames := 0, cells := 0, slots := 0, locals := 0 } : Room)) (fun a U => a = #[(.int u0), (.int u1), (.int u2), .null] ∧ Z.Warmed39 U.vm ∧ U.heap = h0) (fun _ _ _ _ _ => True) (fun _ U o U' => ∃ v L, o = .returned v ∧ own_q_own_r4 Z u0 u1 u2 h0 n0 v U'.heap L ∧ FrameEnd U o U' L ({ frames := 0, cells := 0, slots := 0, locals := 0 } : Room).cells ({ frames := 0, cells := 0, slots := 0, locals := 0 } : Room).slots) := by
  refine MetFree.of_bodySF (plainFor_of_name own_pn_Preconditions) hisR ?_
  intro p e s m args below meth c T0 Bd hml0 hP hK
  obtain ⟨rfl, hZ, hh⟩ := hP
  have hx := Bd.exec
  have hby := Bd.bytes
  have hml : c.maxLocals = 4 := hml0
  have hown : s.vm.findClass "jdk/internal/util/Preconditions" = some m.cls := findClass_of_methodNamed Bd.named
  have hnm := (name_of_methodNamed Bd.named Bd.method).1
  have hret : meth.sig.returnType = (some .int) := Bd.returns
  have hlk : meth.locks = false := BodyLoose.notSynchronized Bd
  have X0 : Stand p l e ({ frames := 0, cells := 0, slots := 0, locals := 0 } : Room) s m #[(.int u0), (.int u1), (.int u2), .null] below meth c T0 [] 0 0 := Stand.of_body Bd
  have e0 : T0.heap = h0 := by rw [← hh, Bd.state]; rfl
  have N0 := Fr.nil n0
  refine own_start (own_ef4n m u0 u1 u2) (Q := fun (v : Option Value) (h : Heap) (L : List Loc) => v = some (.int u0) ∧ Fr n0 L ∧ h = h0) (k := 0) (j := 0) ?_
  show own_Go p e below T0 (mkF m 0 #[.val (.int u0), .val (.int u1), .val (.int u2), .val .null] []) _
  refine own_s_iloadN X0.here hx (hb hby own_d4_0) rfl ?_
  refine own_s_iloadN X0.here hx (hb hby own_d4_1) rfl ?_
  refine own_s_ior X0.here hx (hb hby own_d4_2) ?_
  refine own_s_iloadN X0.here hx (hb hby own_d4_3) rfl ?_
  refine own_s_ior X0.here hx (hb hby own_d4_4) ?_
  refine own_s_ifNo X0.here hx (hb hby own_d4_5) (Jvm.Free.XT.i0_lt_f hk1) ?_
  refine own_s_iloadN X0.here hx (hb hby own_d4_8) rfl ?_
  refine own_s_iloadN X0.here hx (hb hby own_d4_9) rfl ?_
  refine own_s_iloadN X0.here hx (hb hby own_d4_10) rfl ?_
  refine own_s_isub X0.here hx (hb hby own_d4_11) ?_
  show own_Go p e below T0 (mkF m 12 #[.val (.int u0), .val (.int u1), .val (.int u2), .val .null] [(.int (u2 - u0)), (.int u1)]) _
  refine own_s_icmpYes X0.here hx 23 (hb hby own_d4_12) (Jvm.Free.XT.ii_le_t hk2) (by decide) (by decide) ?_
  refine own_s_iloadN X0.here hx (hb hby own_d4_23) rfl ?_
  refine own_retI X0 hx hret hlk (hb hby own_d4_24) (by decide) (by decide) ?_
  exact ⟨rfl, N0, e0⟩
theorem own_d3_0 : decode jdk_31_method_19_code 0 = .ok (.iload_n 0, 1) := by decide +kernel
theorem own_d3_1 : decode jdk_31_method_19_code 1 = .ok (.iload_n 1, 1) := by decide +kernel
theorem own_d3_2 : decode jdk_31_method_19_code 2 = .ok (.iload_n 2, 1) := by decide +kernel
theorem own_d3_3 : decode jdk_31_method_19_code 3 = .ok (.aconst_null, 1) := by decide +kernel
theorem own_d3_4 : decode jdk_31_method_19_code 4 = .ok (.invokestatic 115, 3) := by decide +kernel
theorem own_d3_7 : decode jdk_31_method_19_code 7 = .ok (.ireturn, 1) := by decide +kernel
theorem own_pn_Objects : plainName "java/util/Objects" = true := by first | (simp [plainName, overriddenIn]; done) | decide +kernel
theorem own_ef3 (m : MethodId) (u0 : Int32) (u1 : Int32) (u2 : Int32) : entryFrame m #[(.int u0), (.int u1), (.int u2)] 3 = mkF m 0 #[.val (.int u0), .val (.int u1), .val (.int u2)] [] := by first | (simp [entryFrame, mkF, argsToLocals, Value.category]; done) | rfl
theorem own_pd_3 : parseMethodDescriptor "(IIILjava/util/function/BiFunction;)I" = some ⟨[.int, .int, .int, (.object "java/util/function/BiFunction")], some .int⟩ := by decide +kernel
def own_q_own_r3 (Z : State) (u0 : Int32) (u1 : Int32) (u2 : Int32) (h0 : Heap) (n0 : Nat) (v : Option Value) (h : Heap) (L : List Loc) : Prop := v = some (.int u0) ∧ Fr n0 L ∧ h = h0
set_option maxRecDepth 65536 in
set_option maxHeartbeats 40000000 in
theorem own_r3 (l : Launch) (Z : State) (a0 : Array Value) (hw : ∀ d ∈ tables_1, d.before a0 Z = true) (ws : List Jvm.Cond) (u0 : Int32) (u1 : Int32) (u2 : Int32) (h0 : Heap) (n0 : Nat) (Z0 : n0 ≤ h0.size) (hk1 : ¬ ((u2 ||| u0) ||| u1) < 0) (hk2 : ¬ (u2 - u0) < u1) :
    MetFree l (⟨"java/util/Objects", "checkFromIndexSize", "(III)I"⟩ : MethodName) (head1 (Jvm.Cond.code (⟨"java/util/Objects", "checkFromIndexSize", "(III)I"⟩ : MethodName) jdk_31_method_19_code 3 (some .int) :: ws) ({ frames := 1, cells := 0, slots := 0, locals := 15 } : Room)) (fun a U => a = #[(.int u0), (.int u1), (.int u2)] ∧ Z.Warmed39 U.vm ∧ U.heap = h0) (fun _ _ _ _ _ => True) (fun _ U o U' => ∃ v L, o = .returned v ∧ own_q_own_r3 Z u0 u1 u2 h0 n0 v U'.heap L ∧ FrameEnd U o U' L ({ frames := 1, cells := 0, slots := 0, locals := 15 } : Room).cells ({ frames := 1, cells := 0, slots := 0, locals := 15 } : Room).slots) := by
  refine MetFree.of_bodySF (plainFor_of_name own_pn_Objects) hisR ?_
  intro p e s m args below meth c T0 Bd hml0 hP hK
  obtain ⟨rfl, hZ, hh⟩ := hP
  have hx := Bd.exec
  have hby := Bd.bytes
  have hml : c.maxLocals = 3 := hml0
  have hown : s.vm.findClass "java/util/Objects" = some m.cls := findClass_of_methodNamed Bd.named
  have hnm := (name_of_methodNamed Bd.named Bd.method).1
  have hret : meth.sig.returnType = (some .int) := Bd.returns
  have hlk : meth.locks = false := BodyLoose.notSynchronized Bd
  have X0 : Stand p l e ({ frames := 1, cells := 0, slots := 0, locals := 15 } : Room) s m #[(.int u0), (.int u1), (.int u2)] below meth c T0 [] 0 0 := Stand.of_body Bd
  have e0 : T0.heap = h0 := by rw [← hh, Bd.state]; rfl
  have N0 := Fr.nil n0
  refine own_start (own_ef3 m u0 u1 u2) (Q := fun (v : Option Value) (h : Heap) (L : List Loc) => v = some (.int u0) ∧ Fr n0 L ∧ h = h0) (k := 0) (j := 0) ?_
  show own_Go p e below T0 (mkF m 0 #[.val (.int u0), .val (.int u1), .val (.int u2)] []) _
  refine own_s_iloadN X0.here hx (hb hby own_d3_0) rfl ?_
  refine own_s_iloadN X0.here hx (hb hby own_d3_1) rfl ?_
  refine own_s_iloadN X0.here hx (hb hby own_d3_2) rfl ?_
  refine own_by (fun tq_ kq_ => XS.aconstNull X0.here hx rfl (hb hby own_d3_3) kq_) ?_
  show own_Go p e below T0 (mkF m 4 #[.val (.int u0), .val (.int u1), .val (.int u2)] [.null, (.int u2), (.int u1), (.int u0)]) _
  obtain ⟨_, _, ⟨T1, L1, k1, n1⟩, -, X1, ⟨Lc1, hQ1, l1, y1, z1⟩, st1⟩ := Jvm.LawKit.callS X0 hx (y := (⟨"jdk/internal/util/Preconditions", "checkFromIndexSize", "(IIILjava/util/function/BiFunction;)I"⟩ : MethodName)) hown (mvT hZ (hw _ (List.mem_of_getElem? (i := 15) rfl))) (mvT hZ (hw _ (List.mem_of_getElem? (i := 16) rfl))) (mvT hZ (hw _ (List.mem_of_getElem? (i := 17) rfl))) (mvT hZ (hw _ (List.mem_of_getElem? (i := 18) rfl))) (by decide) (backOf (W := 0) (own_r4 l Z a0 hw [] u0 u1 u2  h0 n0 Z0 hk1 hk2) hZ (hw _ (List.mem_of_getElem? (i := 18) rfl)) (hw _ (List.mem_of_getElem? (i := 17) rfl)) (by decide) (by decide)) (g := (mkF m 4 #[.val (.int u0), .val (.int u1), .val (.int u2)] [.null, (.int u2), (.int u1), (.int u0)])) rfl (by rw [hml]; rfl) (argsL := [(.int u0), (.int u1), (.int u2), .null]) (rest := []) (lenOf own_pd_3 rfl) rfl (by show 2 * 0 + _ ≤ _; exact Nat.le_of_eq rfl) (hb hby own_d3_4) (fun _ _ => ⟨rfl, e0, (by decide : 0 + 0 ≤ _), (by decide : 0 + 0 ≤ _)⟩)
  dsimp only [Pt.U, Pt.locs, Pt.cells, Pt.slots] at X1 l1 y1 z1 st1 hQ1
  subst l1 y1 z1
  obtain ⟨rfl, N1q, e1⟩ := hQ1
  have N1 := Fr.app N0 N1q
  refine own_by st1 ?_
  show own_Go p e below T1 (mkF m 7 #[.val (.int u0), .val (.int u1), .val (.int u2)] [(.int u0)]) _
  refine own_retI X1 hx hret hlk (hb hby own_d3_7) (by decide) (by decide) ?_
  exact ⟨rfl, N1, e1⟩
theorem own_d1_0 : decode prog_4_method_1_code 0 = .ok (.aload_n 0, 1) := by decide +kernel
theorem own_d1_1 : decode prog_4_method_1_code 1 = .ok (.invokespecial 1, 3) := by decide +kernel
theorem own_d1_4 : decode prog_4_method_1_code 4 = .ok (.iload_n 2, 1) := by decide +kernel
theorem own_d1_5 : decode prog_4_method_1_code 5 = .ok (.iload_n 3, 1) := by decide +kernel
theorem own_d1_6 : decode prog_4_method_1_code 6 = .ok (.aload_n 1, 1) := by decide +kernel
theorem own_d1_7 : decode prog_4_method_1_code 7 = .ok (.arraylength, 1) := by decide +kernel
theorem own_d1_8 : decode prog_4_method_1_code 8 = .ok (.invokestatic 7, 3) := by decide +kernel
theorem own_d1_11 : decode prog_4_method_1_code 11 = .ok (.pop, 1) := by decide +kernel
theorem own_d1_12 : decode prog_4_method_1_code 12 = .ok (.aload_n 0, 1) := by decide +kernel
theorem own_d1_13 : decode prog_4_method_1_code 13 = .ok (.aload_n 1, 1) := by decide +kernel
theorem own_d1_14 : decode prog_4_method_1_code 14 = .ok (.putfield 13, 3) := by decide +kernel
theorem own_d1_17 : decode prog_4_method_1_code 17 = .ok (.aload_n 0, 1) := by decide +kernel
theorem own_d1_18 : decode prog_4_method_1_code 18 = .ok (.iload_n 2, 1) := by decide +kernel
theorem own_d1_19 : decode prog_4_method_1_code 19 = .ok (.putfield 19, 3) := by decide +kernel
theorem own_d1_22 : decode prog_4_method_1_code 22 = .ok (.aload_n 0, 1) := by decide +kernel
theorem own_d1_23 : decode prog_4_method_1_code 23 = .ok (.iload_n 2, 1) := by decide +kernel
theorem own_d1_24 : decode prog_4_method_1_code 24 = .ok (.iload_n 3, 1) := by decide +kernel
theorem own_d1_25 : decode prog_4_method_1_code 25 = .ok (.iadd, 1) := by decide +kernel
theorem own_d1_26 : decode prog_4_method_1_code 26 = .ok (.putfield 23, 3) := by decide +kernel
theorem own_d1_29 : decode prog_4_method_1_code 29 = .ok (.return_, 1) := by decide +kernel
theorem own_pn_ByteReader : plainName "com/example/fold_time/foldtime/model/ByteReader" = true := by first | (simp [plainName, overriddenIn]; done) | decide +kernel
theorem own_ef1 (m : MethodId) (this : Addr) (r1 : Addr) (u0 : Int32) (u1 : Int32) : entryFrame m #[(.ref this), (.ref r1), (.int u0), (.int u1)] 4 = mkF m 0 #[.val (.ref this), .val (.ref r1), .val (.int u0), .val (.int u1)] [] := by first | (simp [entryFrame, mkF, argsToLocals, Value.category]; done) | rfl
theorem own_pd_2 : parseMethodDescriptor "(III)I" = some ⟨[.int, .int, .int], some .int⟩ := by decide +kernel
def own_q_own_r1 (Z : State) (this : Addr) (r1 : Addr) (u0 : Int32) (u1 : Int32) (n : Nat) (f : Nat → Value) (u2 : Int32) (h0 : Heap) (n0 : Nat) (v : Option Value) (h : Heap) (L : List Loc) : Prop := v = none ∧ Fr n0 L ∧ Keep h0 h [this] ∧ Fld Z h this "com/example/fold_time/foldtime/model/ByteReader" "bytes" "[B" (.ref r1) ∧ Fld Z h this "com/example/fold_time/foldtime/model/ByteReader" "position" "I" (.int u0) ∧ Fld Z h this "com/example/fold_time/foldtime/model/ByteReader" "end" "I" (.int (u0 + u1))
set_option maxRecDepth 65536 in
set_option maxHeartbeats 40000000 in
theorem own_r1 (l : Launch) (Z : State) (a0 : Array Value) (hw : ∀ d ∈ tables_1, d.before a0 Z = true) (ws : List Jvm.Cond) (this : Addr) (r1 : Addr) (u0 : Int32) (u1 : Int32) (n : Nat) (f : Nat → Value) (u2 : Int32) (h0 : Heap) (n0 : Nat) (Z0 : n0 ≤ h0.size) (hz : n.toInt32 = u2) (hk1 : ¬ ((u2 ||| u0) ||| u1) < 0) (hk2 : ¬ (u2 - u0) < u1) (E_this : Exa Z h0 this "com/example/fold_time/foldtime/model/ByteReader") (F_this_bytes : Fld Z h0 this "com/example/fold_time/foldtime/model/ByteReader" "bytes" "[B" .null) (F_this_position : Fld Z h0 this "com/example/fold_time/foldtime/model/ByteReader" "position" "I" (.int (0 : Int32))) (F_this_end : Fld Z h0 this "com/example/fold_time/foldtime/model/ByteReader" "end" "I" (.int (0 : Int32))) (ge_this : n0 ≤ this) (A_r1 : own_Av Z h0 r1 .byte n f) (ne_r1_this : r1 ≠ this) :
    MetFree l (⟨"com/example/fold_time/foldtime/model/ByteReader", "<init>", "([BII)V"⟩ : MethodName) (head1 (Jvm.Cond.code (⟨"com/example/fold_time/foldtime/model/ByteReader", "<init>", "([BII)V"⟩ : MethodName) prog_4_method_1_code 4 none :: ws) ({ frames := 2, cells := 0, slots := 0, locals := 29 } : Room)) (fun a U => a = #[(.ref this), (.ref r1), (.int u0), (.int u1)] ∧ Z.Warmed39 U.vm ∧ U.heap = h0) (fun _ _ _ _ _ => True) (fun _ U o U' => ∃ v L, o = .returned v ∧ own_q_own_r1 Z this r1 u0 u1 n f u2 h0 n0 v U'.heap L ∧ FrameEnd U o U' L ({ frames := 2, cells := 0, slots := 0, locals := 29 } : Room).cells ({ frames := 2, cells := 0, slots := 0, locals := 29 } : Room).slots) := by
  refine MetFree.of_bodySF (plainFor_of_name own_pn_ByteReader) hisR ?_
  intro p e s m args below meth c T0 Bd hml0 hP hK
  obtain ⟨rfl, hZ, hh⟩ := hP
  have hx := Bd.exec
  have hby := Bd.bytes
  have hml : c.maxLocals = 4 := hml0
  have hown : s.vm.findClass "com/example/fold_time/foldtime/model/ByteReader" = some m.cls := findClass_of_methodNamed Bd.named
  have hnm := (name_of_methodNamed Bd.named Bd.method).1
  have hret : meth.sig.returnType = none := Bd.returns
  have hlk : meth.locks = false := BodyLoose.notSynchronized Bd
  have X0 : Stand p l e ({ frames := 2, cells := 0, slots := 0, locals := 29 } : Room) s m #[(.ref this), (.ref r1), (.int u0), (.int u1)] below meth c T0 [] 0 0 := Stand.of_body Bd
  have e0 : T0.heap = h0 := by rw [← hh, Bd.state]; rfl
  have N0 := Fr.nil n0
  refine own_start (own_ef1 m this r1 u0 u1) (Q := fun (v : Option Value) (h : Heap) (L : List Loc) => v = none ∧ Fr n0 L ∧ Keep h0 h [this] ∧ Fld Z h this "com/example/fold_time/foldtime/model/ByteReader" "bytes" "[B" (.ref r1) ∧ Fld Z h this "com/example/fold_time/foldtime/model/ByteReader" "position" "I" (.int u0) ∧ Fld Z h this "com/example/fold_time/foldtime/model/ByteReader" "end" "I" (.int (u0 + u1))) (k := 0) (j := 0) ?_
  show own_Go p e below T0 (mkF m 0 #[.val (.ref this), .val (.ref r1), .val (.int u0), .val (.int u1)] []) _
  have K0 := Keep.refl h0 [this]
  refine own_s_aloadN X0.here hx (hb hby own_d1_0) rfl rfl ?_
  obtain ⟨T2, X2, e2, st2⟩ := initO X0 hx hZ hown (hw _ (List.mem_of_getElem? (i := 8) rfl)) (hw _ (List.mem_of_getElem? (i := 9) rfl)) (hw _ (List.mem_of_getElem? (i := 10) rfl)) e0 (g := (mkF m 1 #[.val (.ref this), .val (.ref r1), .val (.int u0), .val (.int u1)] [(.ref this)])) rfl (by rw [hml]; rfl) rfl (hb hby own_d1_1) (by decide) (W := 0) (by show 2 * 0 + _ ≤ _; exact Nat.le_of_eq rfl) (by decide)
  refine own_by st2 ?_
  show own_Go p e below T2 (mkF m 4 #[.val (.ref this), .val (.ref r1), .val (.int u0), .val (.int u1)] []) _
  refine own_s_iloadN X2.here hx (hb hby own_d1_4) rfl ?_
  refine own_s_iloadN X2.here hx (hb hby own_d1_5) rfl ?_
  refine own_s_aloadN X2.here hx (hb hby own_d1_6) rfl rfl ?_
  refine own_by (fun tq_ kq_ => own_len X2 hx hZ e2 A_r1 (z := u2) hz (g := (mkF m 7 #[.val (.ref this), .val (.ref r1), .val (.int u0), .val (.int u1)] [(.ref r1), (.int u1), (.int u0)])) rfl rfl (hb hby own_d1_7) tq_ kq_) ?_
  show own_Go p e below T2 (mkF m 8 #[.val (.ref this), .val (.ref r1), .val (.int u0), .val (.int u1)] [(.int u2), (.int u1), (.int u0)]) _
  obtain ⟨_, _, ⟨T3, L3, k3, n3⟩, -, X3, ⟨Lc3, hQ3, l3, y3, z3⟩, st3⟩ := Jvm.LawKit.callS X2 hx (y := (⟨"java/util/Objects", "checkFromIndexSize", "(III)I"⟩ : MethodName)) hown (mvT hZ (hw _ (List.mem_of_getElem? (i := 11) rfl))) (mvT hZ (hw _ (List.mem_of_getElem? (i := 12) rfl))) (mvT hZ (hw _ (List.mem_of_getElem? (i := 13) rfl))) (mvT hZ (hw _ (List.mem_of_getElem? (i := 14) rfl))) (by decide) (backOf (W := 0) (own_r3 l Z a0 hw [] u0 u1 u2  h0 n0 Z0 hk1 hk2) hZ (hw _ (List.mem_of_getElem? (i := 14) rfl)) (hw _ (List.mem_of_getElem? (i := 13) rfl)) (by decide) (by decide)) (g := (mkF m 8 #[.val (.ref this), .val (.ref r1), .val (.int u0), .val (.int u1)] [(.int u2), (.int u1), (.int u0)])) rfl (by rw [hml]; rfl) (argsL := [(.int u0), (.int u1), (.int u2)]) (rest := []) (lenOf own_pd_2 rfl) rfl (by show 2 * 0 + _ ≤ _; exact Nat.le_of_eq rfl) (hb hby own_d1_8) (fun _ _ => ⟨rfl, e2, (by decide : 0 + 0 ≤ _), (by decide : 0 + 0 ≤ _)⟩)
  dsimp only [Pt.U, Pt.locs, Pt.cells, Pt.slots] at X3 l3 y3 z3 st3 hQ3
  subst l3 y3 z3
  obtain ⟨rfl, N3q, e3⟩ := hQ3
  have N3 := Fr.app N0 N3q
  refine own_by st3 ?_
  show own_Go p e below T3 (mkF m 11 #[.val (.ref this), .val (.ref r1), .val (.int u0), .val (.int u1)] [(.int u0)]) _
  refine own_s_pop X3.here hx (hb hby own_d1_11) rfl ?_
  refine own_s_aloadN X3.here hx (hb hby own_d1_12) rfl rfl ?_
  refine own_s_aloadN X3.here hx (hb hby own_d1_13) rfl rfl ?_
  obtain ⟨T4, h4, X4, e4, W4, st4⟩ := putF X3 hx hZ hown (host := "") (Or.inl (hw _ (List.mem_of_getElem? (i := 19) rfl))) Via.refl e3 F_this_bytes E_this (Or.inr ⟨(hw _ (List.mem_of_getElem? (i := 20) rfl)), rfl, hnm⟩) (hw _ (List.mem_of_getElem? (i := 3) rfl)) (ty := (.array .byte)) (by decide) rfl rfl (g := (mkF m 14 #[.val (.ref this), .val (.ref r1), .val (.int u0), .val (.int u1)] [(.ref r1), (.ref this)])) rfl rfl (hb hby own_d1_14)
  have fw4 := F_this_bytes.same W4
  have f5 := E_this.wr W4
  have f6 := F_this_position.other W4 (Or.inr (slot_ne (Or.inl (hw _ (List.mem_of_getElem? (i := 22) rfl))) (Or.inr (hw _ (List.mem_of_getElem? (i := 20) rfl))) (by decide) (t := .int) (t' := (.array .byte)) (by decide) (by decide)))
  have f7 := F_this_end.other W4 (Or.inr (slot_ne (Or.inr (hw _ (List.mem_of_getElem? (i := 24) rfl))) (Or.inr (hw _ (List.mem_of_getElem? (i := 20) rfl))) (by decide) (t := .int) (t' := (.array .byte)) (by decide) (by decide)))
  have f8 := A_r1.other W4 ne_r1_this
  have N4 := Fr.snoc X4 N3 ge_this
  have SZ4 : n0 ≤ h4.size := by rw [W4.size]; exact Z0
  have K4 := K0.wr W4 (Or.inl (List.mem_of_getElem? (i := 0) rfl))
  refine own_by st4 ?_
  show own_Go p e below T4 (mkF m 17 #[.val (.ref this), .val (.ref r1), .val (.int u0), .val (.int u1)] []) _
  refine own_s_aloadN X4.here hx (hb hby own_d1_17) rfl rfl ?_
  refine own_s_iloadN X4.here hx (hb hby own_d1_18) rfl ?_
  obtain ⟨T9, h9, X9, e9, W9, st9⟩ := putF X4 hx hZ hown (host := "") (Or.inl (hw _ (List.mem_of_getElem? (i := 21) rfl))) Via.refl e4 f6 f5 (Or.inl (hw _ (List.mem_of_getElem? (i := 22) rfl))) (hw _ (List.mem_of_getElem? (i := 3) rfl)) (ty := .int) (by decide) rfl rfl (g := (mkF m 19 #[.val (.ref this), .val (.ref r1), .val (.int u0), .val (.int u1)] [(.int u0), (.ref this)])) rfl rfl (hb hby own_d1_19)
  have fw9 := f6.same W9
  have f10 := f5.wr W9
  have f11 := fw4.other W9 (Or.inr (slot_ne (Or.inr (hw _ (List.mem_of_getElem? (i := 20) rfl))) (Or.inl (hw _ (List.mem_of_getElem? (i := 22) rfl))) (by decide) (t := (.array .byte)) (t' := .int) (by decide) (by decide)))
  have f12 := f7.other W9 (Or.inr (slot_ne (Or.inr (hw _ (List.mem_of_getElem? (i := 24) rfl))) (Or.inl (hw _ (List.mem_of_getElem? (i := 22) rfl))) (by decide) (t := .int) (t' := .int) (by decide) (by decide)))
  have f13 := f8.other W9 ne_r1_this
  have N9 := Fr.snoc X9 N4 ge_this
  have SZ9 : n0 ≤ h9.size := by rw [W9.size]; exact SZ4
  have K9 := K4.wr W9 (Or.inl (List.mem_of_getElem? (i := 0) rfl))
  refine own_by st9 ?_
  show own_Go p e below T9 (mkF m 22 #[.val (.ref this), .val (.ref r1), .val (.int u0), .val (.int u1)] []) _
  refine own_s_aloadN X9.here hx (hb hby own_d1_22) rfl rfl ?_
  refine own_s_iloadN X9.here hx (hb hby own_d1_23) rfl ?_
  refine own_s_iloadN X9.here hx (hb hby own_d1_24) rfl ?_
  refine own_s_iadd X9.here hx (hb hby own_d1_25) ?_
  obtain ⟨T14, h14, X14, e14, W14, st14⟩ := putF X9 hx hZ hown (host := "") (Or.inl (hw _ (List.mem_of_getElem? (i := 23) rfl))) Via.refl e9 f12 f10 (Or.inr ⟨(hw _ (List.mem_of_getElem? (i := 24) rfl)), rfl, hnm⟩) (hw _ (List.mem_of_getElem? (i := 3) rfl)) (ty := .int) (by decide) rfl rfl (g := (mkF m 26 #[.val (.ref this), .val (.ref r1), .val (.int u0), .val (.int u1)] [(.int (u0 + u1)), (.ref this)])) rfl rfl (hb hby own_d1_26)
  have fw14 := f12.same W14
  have f15 := f10.wr W14
  have f16 := f11.other W14 (Or.inr (slot_ne (Or.inr (hw _ (List.mem_of_getElem? (i := 20) rfl))) (Or.inr (hw _ (List.mem_of_getElem? (i := 24) rfl))) (by decide) (t := (.array .byte)) (t' := .int) (by decide) (by decide)))
  have f17 := fw9.other W14 (Or.inr (slot_ne (Or.inl (hw _ (List.mem_of_getElem? (i := 22) rfl))) (Or.inr (hw _ (List.mem_of_getElem? (i := 24) rfl))) (by decide) (t := .int) (t' := .int) (by decide) (by decide)))
  have f18 := f13.other W14 ne_r1_this
  have N14 := Fr.snoc X14 N9 ge_this
  have SZ14 : n0 ≤ h14.size := by rw [W14.size]; exact SZ9
  have K14 := K9.wr W14 (Or.inl (List.mem_of_getElem? (i := 0) rfl))
  refine own_by st14 ?_
  show own_Go p e below T14 (mkF m 29 #[.val (.ref this), .val (.ref r1), .val (.int u0), .val (.int u1)] []) _
  refine own_retV X14 hx hret hlk (hb hby own_d1_29) (by decide) (by decide) ?_
  rw [e14]
  exact ⟨rfl, N14, K14, f16, f17, fw14⟩
theorem own_d6_0 : decode prog_4_method_11_code 0 = .ok (.iload_n 1, 1) := by decide +kernel
theorem own_d6_1 : decode prog_4_method_11_code 1 = .ok (.aload_n 0, 1) := by decide +kernel
theorem own_d6_2 : decode prog_4_method_11_code 2 = .ok (.getfield 23, 3) := by decide +kernel
theorem own_d6_5 : decode prog_4_method_11_code 5 = .ok (.aload_n 0, 1) := by decide +kernel
theorem own_d6_6 : decode prog_4_method_11_code 6 = .ok (.getfield 19, 3) := by decide +kernel
theorem own_d6_9 : decode prog_4_method_11_code 9 = .ok (.isub, 1) := by decide +kernel
theorem own_d6_10 : decode prog_4_method_11_code 10 = .ok (.if_icmp .le 11, 3) := by decide +kernel
theorem own_d6_13 : decode prog_4_method_11_code 13 = .ok (.new 69, 3) := by decide +kernel
theorem own_d6_16 : decode prog_4_method_11_code 16 = .ok (.dup, 1) := by decide +kernel
theorem own_d6_17 : decode prog_4_method_11_code 17 = .ok (.invokespecial 71, 3) := by decide +kernel
theorem own_d6_20 : decode prog_4_method_11_code 20 = .ok (.athrow, 1) := by decide +kernel
theorem own_d6_21 : decode prog_4_method_11_code 21 = .ok (.return_, 1) := by decide +kernel
theorem own_ef6 (m : MethodId) (this : Addr) (u0 : Int32) : entryFrame m #[(.ref this), (.int u0)] 2 = mkF m 0 #[.val (.ref this), .val (.int u0)] [] := by first | (simp [entryFrame, mkF, argsToLocals, Value.category]; done) | rfl
def own_q_own_r6 (Z : State) (this : Addr) (u0 : Int32) (ps en : Int32) (h0 : Heap) (n0 : Nat) (v : Option Value) (h : Heap) (L : List Loc) : Prop := v = none ∧ Fr n0 L ∧ h = h0
set_option maxRecDepth 65536 in
set_option maxHeartbeats 40000000 in
theorem own_r6 (l : Launch) (Z : State) (a0 : Array Value) (hw : ∀ d ∈ tables_1, d.before a0 Z = true) (ws : List Jvm.Cond) (this : Addr) (u0 : Int32) (ps en : Int32) (h0 : Heap) (n0 : Nat) (Z0 : n0 ≤ h0.size) (hk : ¬ (en - ps) < u0) (F_this_position : Fld Z h0 this "com/example/fold_time/foldtime/model/ByteReader" "position" "I" (.int ps)) (F_this_end : Fld Z h0 this "com/example/fold_time/foldtime/model/ByteReader" "end" "I" (.int en)) :
    MetFree l (⟨"com/example/fold_time/foldtime/model/ByteReader", "require", "(I)V"⟩ : MethodName) (head1 (Jvm.Cond.code (⟨"com/example/fold_time/foldtime/model/ByteReader", "require", "(I)V"⟩ : MethodName) prog_4_method_11_code 2 none :: ws) ({ frames := 0, cells := 0, slots := 0, locals := 0 } : Room)) (fun a U => a = #[(.ref this), (.int u0)] ∧ Z.Warmed39 U.vm ∧ U.heap = h0) (fun _ _ _ _ _ => True) (fun _ U o U' => ∃ v L, o = .returned v ∧ own_q_own_r6 Z this u0 ps en h0 n0 v U'.heap L ∧ FrameEnd U o U' L ({ frames := 0, cells := 0, slots := 0, locals := 0 } : Room).cells ({ frames := 0, cells := 0, slots := 0, locals := 0 } : Room).slots) := by
  refine MetFree.of_bodySF (plainFor_of_name own_pn_ByteReader) hisR ?_
  intro p e s m args below meth c T0 Bd hml0 hP hK
  obtain ⟨rfl, hZ, hh⟩ := hP
  have hx := Bd.exec
  have hby := Bd.bytes
  have hml : c.maxLocals = 2 := hml0
  have hown : s.vm.findClass "com/example/fold_time/foldtime/model/ByteReader" = some m.cls := findClass_of_methodNamed Bd.named
  have hnm := (name_of_methodNamed Bd.named Bd.method).1
  have hret : meth.sig.returnType = none := Bd.returns
  have hlk : meth.locks = false := BodyLoose.notSynchronized Bd
  have X0 : Stand p l e ({ frames := 0, cells := 0, slots := 0, locals := 0 } : Room) s m #[(.ref this), (.int u0)] below meth c T0 [] 0 0 := Stand.of_body Bd
  have e0 : T0.heap = h0 := by rw [← hh, Bd.state]; rfl
  have N0 := Fr.nil n0
  refine own_start (own_ef6 m this u0) (Q := fun (v : Option Value) (h : Heap) (L : List Loc) => v = none ∧ Fr n0 L ∧ h = h0) (k := 0) (j := 0) ?_
  show own_Go p e below T0 (mkF m 0 #[.val (.ref this), .val (.int u0)] []) _
  refine own_s_iloadN X0.here hx (hb hby own_d6_0) rfl ?_
  refine own_s_aloadN X0.here hx (hb hby own_d6_1) rfl rfl ?_
  obtain ⟨T19, X19, e19, st19⟩ := getF X0 hx hZ hown (host := "") (Or.inl (hw _ (List.mem_of_getElem? (i := 23) rfl))) Via.refl e0 F_this_end (g := (mkF m 2 #[.val (.ref this), .val (.int u0)] [(.ref this), (.int u0)])) rfl rfl (hb hby own_d6_2)
  refine own_by st19 ?_
  show own_Go p e below T19 (mkF m 5 #[.val (.ref this), .val (.int u0)] [(.int en), (.int u0)]) _
  refine own_s_aloadN X19.here hx (hb hby own_d6_5) rfl rfl ?_
  obtain ⟨T20, X20, e20, st20⟩ := getF X19 hx hZ hown (host := "") (Or.inl (hw _ (List.mem_of_getElem? (i := 21) rfl))) Via.refl e19 F_this_position (g := (mkF m 6 #[.val (.ref this), .val (.int u0)] [(.ref this), (.int en), (.int u0)])) rfl rfl (hb hby own_d6_6)
  refine own_by st20 ?_
  show own_Go p e below T20 (mkF m 9 #[.val (.ref this), .val (.int u0)] [(.int ps), (.int en), (.int u0)]) _
  refine own_s_isub X20.here hx (hb hby own_d6_9) ?_
  show own_Go p e below T20 (mkF m 10 #[.val (.ref this), .val (.int u0)] [(.int (en - ps)), (.int u0)]) _
  refine own_s_icmpYes X20.here hx 21 (hb hby own_d6_10) (Jvm.Free.XT.ii_le_t hk) (by decide) (by decide) ?_
  refine own_retV X20 hx hret hlk (hb hby own_d6_21) (by decide) (by decide) ?_
  exact ⟨rfl, N0, e20⟩
theorem own_d5_0 : decode prog_4_method_6_code 0 = .ok (.aload_n 0, 1) := by decide +kernel
theorem own_d5_1 : decode prog_4_method_6_code 1 = .ok (.iload_n 1, 1) := by decide +kernel
theorem own_d5_2 : decode prog_4_method_6_code 2 = .ok (.invokevirtual 26, 3) := by decide +kernel
theorem own_d5_5 : decode prog_4_method_6_code 5 = .ok (.aload_n 0, 1) := by decide +kernel
theorem own_d5_6 : decode prog_4_method_6_code 6 = .ok (.dup, 1) := by decide +kernel
theorem own_d5_7 : decode prog_4_method_6_code 7 = .ok (.getfield 19, 3) := by decide +kernel
theorem own_d5_10 : decode prog_4_method_6_code 10 = .ok (.iload_n 1, 1) := by decide +kernel
theorem own_d5_11 : decode prog_4_method_6_code 11 = .ok (.iadd, 1) := by decide +kernel
theorem own_d5_12 : decode prog_4_method_6_code 12 = .ok (.putfield 19, 3) := by decide +kernel
theorem own_d5_15 : decode prog_4_method_6_code 15 = .ok (.return_, 1) := by decide +kernel
theorem own_ef5 (m : MethodId) (this : Addr) (u0 : Int32) : entryFrame m #[(.ref this), (.int u0)] 2 = mkF m 0 #[.val (.ref this), .val (.int u0)] [] := by first | (simp [entryFrame, mkF, argsToLocals, Value.category]; done) | rfl
theorem own_pd_4 : parseMethodDescriptor "(I)V" = some ⟨[.int], none⟩ := by decide +kernel
def own_q_own_r5 (Z : State) (this : Addr) (u0 : Int32) (ba : Addr) (ps en : Int32) (h0 : Heap) (n0 : Nat) (v : Option Value) (h : Heap) (L : List Loc) : Prop := v = none ∧ Fr n0 L ∧ Keep h0 h [this] ∧ Fld Z h this "com/example/fold_time/foldtime/model/ByteReader" "bytes" "[B" (.ref ba) ∧ Fld Z h this "com/example/fold_time/foldtime/model/ByteReader" "position" "I" (.int (ps + u0)) ∧ Fld Z h this "com/example/fold_time/foldtime/model/ByteReader" "end" "I" (.int en)
set_option maxRecDepth 65536 in
set_option maxHeartbeats 40000000 in
theorem own_r5 (l : Launch) (Z : State) (a0 : Array Value) (hw : ∀ d ∈ tables_1, d.before a0 Z = true) (ws : List Jvm.Cond) (this : Addr) (u0 : Int32) (ba : Addr) (ps en : Int32) (h0 : Heap) (n0 : Nat) (Z0 : n0 ≤ h0.size) (hk : ¬ (en - ps) < u0) (E_this : Exa Z h0 this "com/example/fold_time/foldtime/model/ByteReader") (F_this_bytes : Fld Z h0 this "com/example/fold_time/foldtime/model/ByteReader" "bytes" "[B" (.ref ba)) (F_this_position : Fld Z h0 this "com/example/fold_time/foldtime/model/ByteReader" "position" "I" (.int ps)) (F_this_end : Fld Z h0 this "com/example/fold_time/foldtime/model/ByteReader" "end" "I" (.int en)) (ge_this : n0 ≤ this) :
    MetFree l (⟨"com/example/fold_time/foldtime/model/ByteReader", "skip", "(I)V"⟩ : MethodName) (head1 (Jvm.Cond.code (⟨"com/example/fold_time/foldtime/model/ByteReader", "skip", "(I)V"⟩ : MethodName) prog_4_method_6_code 2 none :: ws) ({ frames := 1, cells := 0, slots := 0, locals := 13 } : Room)) (fun a U => a = #[(.ref this), (.int u0)] ∧ Z.Warmed39 U.vm ∧ U.heap = h0) (fun _ _ _ _ _ => True) (fun _ U o U' => ∃ v L, o = .returned v ∧ own_q_own_r5 Z this u0 ba ps en h0 n0 v U'.heap L ∧ FrameEnd U o U' L ({ frames := 1, cells := 0, slots := 0, locals := 13 } : Room).cells ({ frames := 1, cells := 0, slots := 0, locals := 13 } : Room).slots) := by
  refine MetFree.of_bodySF (plainFor_of_name own_pn_ByteReader) hisR ?_
  intro p e s m args below meth c T0 Bd hml0 hP hK
  obtain ⟨rfl, hZ, hh⟩ := hP
  have hx := Bd.exec
  have hby := Bd.bytes
  have hml : c.maxLocals = 2 := hml0
  have hown : s.vm.findClass "com/example/fold_time/foldtime/model/ByteReader" = some m.cls := findClass_of_methodNamed Bd.named
  have hnm := (name_of_methodNamed Bd.named Bd.method).1
  have hret : meth.sig.returnType = none := Bd.returns
  have hlk : meth.locks = false := BodyLoose.notSynchronized Bd
  have X0 : Stand p l e ({ frames := 1, cells := 0, slots := 0, locals := 13 } : Room) s m #[(.ref this), (.int u0)] below meth c T0 [] 0 0 := Stand.of_body Bd
  have e0 : T0.heap = h0 := by rw [← hh, Bd.state]; rfl
  have N0 := Fr.nil n0
  refine own_start (own_ef5 m this u0) (Q := fun (v : Option Value) (h : Heap) (L : List Loc) => v = none ∧ Fr n0 L ∧ Keep h0 h [this] ∧ Fld Z h this "com/example/fold_time/foldtime/model/ByteReader" "bytes" "[B" (.ref ba) ∧ Fld Z h this "com/example/fold_time/foldtime/model/ByteReader" "position" "I" (.int (ps + u0)) ∧ Fld Z h this "com/example/fold_time/foldtime/model/ByteReader" "end" "I" (.int en)) (k := 0) (j := 0) ?_
  show own_Go p e below T0 (mkF m 0 #[.val (.ref this), .val (.int u0)] []) _
  have K0 := Keep.refl h0 [this]
  refine own_s_aloadN X0.here hx (hb hby own_d5_0) rfl rfl ?_
  refine own_s_iloadN X0.here hx (hb hby own_d5_1) rfl ?_
  obtain ⟨cq21, q21, q21'⟩ := E_this.cell
  obtain ⟨_, _, ⟨T21, L21, k21, n21⟩, -, X21, ⟨Lc21, hQ21, l21, y21, z21⟩, st21⟩ := X0.privateBack hx (y := (⟨"com/example/fold_time/foldtime/model/ByteReader", "require", "(I)V"⟩ : MethodName)) hown (mvT hZ (hw _ (List.mem_of_getElem? (i := 30) rfl))) (mvT hZ (hw _ (List.mem_of_getElem? (i := 31) rfl))) (own_selP (y := (⟨"com/example/fold_time/foldtime/model/ByteReader", "require", "(I)V"⟩ : MethodName)) hZ (hw _ (List.mem_of_getElem? (i := 3) rfl)) (hw _ (List.mem_of_getElem? (i := 32) rfl)) (hw _ (List.mem_of_getElem? (i := 31) rfl)) (by decide)) (Cond.privateMethod_at (mvP hZ (hw _ (List.mem_of_getElem? (i := 32) rfl)) (args := #[]))) (mvT hZ (hw _ (List.mem_of_getElem? (i := 33) rfl))) (by decide) (backOf (W := 0) (own_r6 l Z a0 hw [] this u0 ps en h0 n0 Z0 hk F_this_position F_this_end) hZ (hw _ (List.mem_of_getElem? (i := 33) rfl)) (hw _ (List.mem_of_getElem? (i := 4) rfl)) (by decide) (by decide)) (g := (mkF m 2 #[.val (.ref this), .val (.int u0)] [(.int u0), (.ref this)])) rfl (by rw [hml]; rfl) (Steps.refl _) (a := this) (by rw [e0]; exact q21) q21' (argsL := [(.int u0)]) (rest := []) (lenOf own_pd_4 rfl) rfl (by show 2 * 0 + _ ≤ _; exact Nat.le_of_eq rfl) (hb hby own_d5_2) (fun _ _ => ⟨rfl, e0, (by decide : 0 + 0 ≤ _), (by decide : 0 + 0 ≤ _)⟩)
  dsimp only [Pt.U, Pt.locs, Pt.cells, Pt.slots] at X21 l21 y21 z21 st21 hQ21
  subst l21 y21 z21
  obtain ⟨rfl, N21q, e21⟩ := hQ21
  have N21 := Fr.app N0 N21q
  refine own_by (fun t k => st21.trans k) ?_
  show own_Go p e below T21 (mkF m 5 #[.val (.ref this), .val (.int u0)] []) _
  refine own_s_aloadN X21.here hx (hb hby own_d5_5) rfl rfl ?_
  refine own_s_dup X21.here hx (hb hby own_d5_6) rfl ?_
  obtain ⟨T22, X22, e22, st22⟩ := getF X21 hx hZ hown (host := "") (Or.inl (hw _ (List.mem_of_getElem? (i := 21) rfl))) Via.refl e21 F_this_position (g := (mkF m 7 #[.val (.ref this), .val (.int u0)] [(.ref this), (.ref this)])) rfl rfl (hb hby own_d5_7)
  refine own_by st22 ?_
  show own_Go p e below T22 (mkF m 10 #[.val (.ref this), .val (.int u0)] [(.int ps), (.ref this)]) _
  refine own_s_iloadN X22.here hx (hb hby own_d5_10) rfl ?_
  refine own_s_iadd X22.here hx (hb hby own_d5_11) ?_
  obtain ⟨T23, h23, X23, e23, W23, st23⟩ := putF X22 hx hZ hown (host := "") (Or.inl (hw _ (List.mem_of_getElem? (i := 21) rfl))) Via.refl e22 F_this_position E_this (Or.inl (hw _ (List.mem_of_getElem? (i := 22) rfl))) (hw _ (List.mem_of_getElem? (i := 3) rfl)) (ty := .int) (by decide) rfl rfl (g := (mkF m 12 #[.val (.ref this), .val (.int u0)] [(.int (ps + u0)), (.ref this)])) rfl rfl (hb hby own_d5_12)
  have fw23 := F_this_position.same W23
  have f24 := E_this.wr W23
  have f25 := F_this_bytes.other W23 (Or.inr (slot_ne (Or.inr (hw _ (List.mem_of_getElem? (i := 20) rfl))) (Or.inl (hw _ (List.mem_of_getElem? (i := 22) rfl))) (by decide) (t := (.array .byte)) (t' := .int) (by decide) (by decide)))
  have f26 := F_this_end.other W23 (Or.inr (slot_ne (Or.inr (hw _ (List.mem_of_getElem? (i := 24) rfl))) (Or.inl (hw _ (List.mem_of_getElem? (i := 22) rfl))) (by decide) (t := .int) (t' := .int) (by decide) (by decide)))
  have N23 := Fr.snoc X23 N21 ge_this
  have SZ23 : n0 ≤ h23.size := by rw [W23.size]; exact Z0
  have K23 := K0.wr W23 (Or.inl (List.mem_of_getElem? (i := 0) rfl))
  refine own_by st23 ?_
  show own_Go p e below T23 (mkF m 15 #[.val (.ref this), .val (.int u0)] []) _
  refine own_retV X23 hx hret hlk (hb hby own_d5_15) (by decide) (by decide) ?_
  rw [e23]
  exact ⟨rfl, N23, K23, f25, fw23, f26⟩
def own_hr (ps en : Int32) : Int32 := (if ps < en then (1 : Int32) else (0 : Int32))
theorem own_d9_0 : decode prog_4_method_9_code 0 = .ok (.aload_n 0, 1) := by decide +kernel
theorem own_d9_1 : decode prog_4_method_9_code 1 = .ok (.getfield 19, 3) := by decide +kernel
theorem own_d9_4 : decode prog_4_method_9_code 4 = .ok (.aload_n 0, 1) := by decide +kernel
theorem own_d9_5 : decode prog_4_method_9_code 5 = .ok (.getfield 23, 3) := by decide +kernel
theorem own_d9_8 : decode prog_4_method_9_code 8 = .ok (.if_icmp .ge 7, 3) := by decide +kernel
theorem own_d9_11 : decode prog_4_method_9_code 11 = .ok (.iconst 1, 1) := by decide +kernel
theorem own_d9_12 : decode prog_4_method_9_code 12 = .ok (.goto 4, 3) := by decide +kernel
theorem own_d9_15 : decode prog_4_method_9_code 15 = .ok (.iconst 0, 1) := by decide +kernel
theorem own_d9_16 : decode prog_4_method_9_code 16 = .ok (.ireturn, 1) := by decide +kernel
theorem own_ef9 (m : MethodId) (this : Addr) : entryFrame m #[(.ref this)] 1 = mkF m 0 #[.val (.ref this)] [] := by first | (simp [entryFrame, mkF, argsToLocals, Value.category]; done) | rfl
def own_q_own_r9 (Z : State) (this : Addr) (ps en : Int32) (h0 : Heap) (n0 : Nat) (v : Option Value) (h : Heap) (L : List Loc) : Prop := v = some (.int (own_hr ps en)) ∧ Fr n0 L ∧ h = h0
set_option maxRecDepth 65536 in
set_option maxHeartbeats 40000000 in
theorem own_r9 (l : Launch) (Z : State) (a0 : Array Value) (hw : ∀ d ∈ tables_1, d.before a0 Z = true) (ws : List Jvm.Cond) (this : Addr) (ps en : Int32) (h0 : Heap) (n0 : Nat) (Z0 : n0 ≤ h0.size) (F_this_position : Fld Z h0 this "com/example/fold_time/foldtime/model/ByteReader" "position" "I" (.int ps)) (F_this_end : Fld Z h0 this "com/example/fold_time/foldtime/model/ByteReader" "end" "I" (.int en)) :
    MetFree l (⟨"com/example/fold_time/foldtime/model/ByteReader", "hasRemaining", "()Z"⟩ : MethodName) (head1 (Jvm.Cond.code (⟨"com/example/fold_time/foldtime/model/ByteReader", "hasRemaining", "()Z"⟩ : MethodName) prog_4_method_9_code 1 (some .boolean) :: ws) ({ frames := 0, cells := 0, slots := 0, locals := 0 } : Room)) (fun a U => a = #[(.ref this)] ∧ Z.Warmed39 U.vm ∧ U.heap = h0) (fun _ _ _ _ _ => True) (fun _ U o U' => ∃ v L, o = .returned v ∧ own_q_own_r9 Z this ps en h0 n0 v U'.heap L ∧ FrameEnd U o U' L ({ frames := 0, cells := 0, slots := 0, locals := 0 } : Room).cells ({ frames := 0, cells := 0, slots := 0, locals := 0 } : Room).slots) := by
  refine MetFree.of_bodySF (plainFor_of_name own_pn_ByteReader) hisR ?_
  intro p e s m args below meth c T0 Bd hml0 hP hK
  obtain ⟨rfl, hZ, hh⟩ := hP
  have hx := Bd.exec
  have hby := Bd.bytes
  have hml : c.maxLocals = 1 := hml0
  have hown : s.vm.findClass "com/example/fold_time/foldtime/model/ByteReader" = some m.cls := findClass_of_methodNamed Bd.named
  have hnm := (name_of_methodNamed Bd.named Bd.method).1
  have hret : meth.sig.returnType = (some .boolean) := Bd.returns
  have hlk : meth.locks = false := BodyLoose.notSynchronized Bd
  have X0 : Stand p l e ({ frames := 0, cells := 0, slots := 0, locals := 0 } : Room) s m #[(.ref this)] below meth c T0 [] 0 0 := Stand.of_body Bd
  have e0 : T0.heap = h0 := by rw [← hh, Bd.state]; rfl
  have N0 := Fr.nil n0
  refine own_start (own_ef9 m this) (Q := fun (v : Option Value) (h : Heap) (L : List Loc) => v = some (.int (own_hr ps en)) ∧ Fr n0 L ∧ h = h0) (k := 0) (j := 0) ?_
  show own_Go p e below T0 (mkF m 0 #[.val (.ref this)] []) _
  refine own_s_aloadN X0.here hx (hb hby own_d9_0) rfl rfl ?_
  obtain ⟨T27, X27, e27, st27⟩ := getF X0 hx hZ hown (host := "") (Or.inl (hw _ (List.mem_of_getElem? (i := 21) rfl))) Via.refl e0 F_this_position (g := (mkF m 1 #[.val (.ref this)] [(.ref this)])) rfl rfl (hb hby own_d9_1)
  refine own_by st27 ?_
  show own_Go p e below T27 (mkF m 4 #[.val (.ref this)] [(.int ps)]) _
  refine own_s_aloadN X27.here hx (hb hby own_d9_4) rfl rfl ?_
  obtain ⟨T28, X28, e28, st28⟩ := getF X27 hx hZ hown (host := "") (Or.inl (hw _ (List.mem_of_getElem? (i := 23) rfl))) Via.refl e27 F_this_end (g := (mkF m 5 #[.val (.ref this)] [(.ref this), (.int ps)])) rfl rfl (hb hby own_d9_5)
  refine own_by st28 ?_
  show own_Go p e below T28 (mkF m 8 #[.val (.ref this)] [(.int en), (.int ps)]) _
  by_cases hc8 : ps < en
  ·
    refine own_s_icmpNo X28.here hx (hb hby own_d9_8) (Jvm.Free.XT.ii_ge_f hc8) ?_
    refine own_s_iconst X28.here hx (1 : Int32) (hb hby own_d9_11) rfl ?_
    show own_Go p e below T28 (mkF m 12 #[.val (.ref this)] [(.int (1 : Int32))]) _
    refine own_s_goto X28.here hx 16 (hb hby own_d9_12) (by decide) (by decide) ?_
    refine own_retZ X28 hx hret hlk (hb hby own_d9_16) rfl (by decide) (by decide) ?_
    exact ⟨by unfold own_hr; rw [if_pos hc8], N0, e28⟩
  ·
    refine own_s_icmpYes X28.here hx 15 (hb hby own_d9_8) (Jvm.Free.XT.ii_ge_t hc8) (by decide) (by decide) ?_
    refine own_s_iconst X28.here hx (0 : Int32) (hb hby own_d9_15) rfl ?_
    refine own_retZ X28 hx hret hlk (hb hby own_d9_16) rfl (by decide) (by decide) ?_
    exact ⟨by unfold own_hr; rw [if_neg hc8], N0, e28⟩
theorem own_d7_0 : decode prog_4_method_8_code 0 = .ok (.aload_n 0, 1) := by decide +kernel
theorem own_d7_1 : decode prog_4_method_8_code 1 = .ok (.getfield 19, 3) := by decide +kernel
theorem own_d7_4 : decode prog_4_method_8_code 4 = .ok (.ireturn, 1) := by decide +kernel
theorem own_ef7 (m : MethodId) (this : Addr) : entryFrame m #[(.ref this)] 1 = mkF m 0 #[.val (.ref this)] [] := by first | (simp [entryFrame, mkF, argsToLocals, Value.category]; done) | rfl
def own_q_own_r7 (Z : State) (this : Addr) (ps : Int32) (h0 : Heap) (n0 : Nat) (v : Option Value) (h : Heap) (L : List Loc) : Prop := v = some (.int ps) ∧ Fr n0 L ∧ h = h0
set_option maxRecDepth 65536 in
set_option maxHeartbeats 40000000 in
theorem own_r7 (l : Launch) (Z : State) (a0 : Array Value) (hw : ∀ d ∈ tables_1, d.before a0 Z = true) (ws : List Jvm.Cond) (this : Addr) (ps : Int32) (h0 : Heap) (n0 : Nat) (Z0 : n0 ≤ h0.size) (F_this_position : Fld Z h0 this "com/example/fold_time/foldtime/model/ByteReader" "position" "I" (.int ps)) :
    MetFree l (⟨"com/example/fold_time/foldtime/model/ByteReader", "position", "()I"⟩ : MethodName) (head1 (Jvm.Cond.code (⟨"com/example/fold_time/foldtime/model/ByteReader", "position", "()I"⟩ : MethodName) prog_4_method_8_code 1 (some .int) :: ws) ({ frames := 0, cells := 0, slots := 0, locals := 0 } : Room)) (fun a U => a = #[(.ref this)] ∧ Z.Warmed39 U.vm ∧ U.heap = h0) (fun _ _ _ _ _ => True) (fun _ U o U' => ∃ v L, o = .returned v ∧ own_q_own_r7 Z this ps h0 n0 v U'.heap L ∧ FrameEnd U o U' L ({ frames := 0, cells := 0, slots := 0, locals := 0 } : Room).cells ({ frames := 0, cells := 0, slots := 0, locals := 0 } : Room).slots) := by
  refine MetFree.of_bodySF (plainFor_of_name own_pn_ByteReader) hisR ?_
  intro p e s m args below meth c T0 Bd hml0 hP hK
  obtain ⟨rfl, hZ, hh⟩ := hP
  have hx := Bd.exec
  have hby := Bd.bytes
  have hml : c.maxLocals = 1 := hml0
  have hown : s.vm.findClass "com/example/fold_time/foldtime/model/ByteReader" = some m.cls := findClass_of_methodNamed Bd.named
  have hnm := (name_of_methodNamed Bd.named Bd.method).1
  have hret : meth.sig.returnType = (some .int) := Bd.returns
  have hlk : meth.locks = false := BodyLoose.notSynchronized Bd
  have X0 : Stand p l e ({ frames := 0, cells := 0, slots := 0, locals := 0 } : Room) s m #[(.ref this)] below meth c T0 [] 0 0 := Stand.of_body Bd
  have e0 : T0.heap = h0 := by rw [← hh, Bd.state]; rfl
  have N0 := Fr.nil n0
  refine own_start (own_ef7 m this) (Q := fun (v : Option Value) (h : Heap) (L : List Loc) => v = some (.int ps) ∧ Fr n0 L ∧ h = h0) (k := 0) (j := 0) ?_
  show own_Go p e below T0 (mkF m 0 #[.val (.ref this)] []) _
  refine own_s_aloadN X0.here hx (hb hby own_d7_0) rfl rfl ?_
  obtain ⟨T29, X29, e29, st29⟩ := getF X0 hx hZ hown (host := "") (Or.inl (hw _ (List.mem_of_getElem? (i := 21) rfl))) Via.refl e0 F_this_position (g := (mkF m 1 #[.val (.ref this)] [(.ref this)])) rfl rfl (hb hby own_d7_1)
  refine own_by st29 ?_
  show own_Go p e below T29 (mkF m 4 #[.val (.ref this)] [(.int ps)]) _
  refine own_retI X29 hx hret hlk (hb hby own_d7_4) (by decide) (by decide) ?_
  exact ⟨rfl, N0, e29⟩
theorem own_d8_0 : decode prog_4_method_10_code 0 = .ok (.aload_n 0, 1) := by decide +kernel
theorem own_d8_1 : decode prog_4_method_10_code 1 = .ok (.getfield 23, 3) := by decide +kernel
theorem own_d8_4 : decode prog_4_method_10_code 4 = .ok (.aload_n 0, 1) := by decide +kernel
theorem own_d8_5 : decode prog_4_method_10_code 5 = .ok (.getfield 19, 3) := by decide +kernel
theorem own_d8_8 : decode prog_4_method_10_code 8 = .ok (.isub, 1) := by decide +kernel
theorem own_d8_9 : decode prog_4_method_10_code 9 = .ok (.ireturn, 1) := by decide +kernel
theorem own_ef8 (m : MethodId) (this : Addr) : entryFrame m #[(.ref this)] 1 = mkF m 0 #[.val (.ref this)] [] := by first | (simp [entryFrame, mkF, argsToLocals, Value.category]; done) | rfl
def own_q_own_r8 (Z : State) (this : Addr) (ps en : Int32) (h0 : Heap) (n0 : Nat) (v : Option Value) (h : Heap) (L : List Loc) : Prop := v = some (.int (en - ps)) ∧ Fr n0 L ∧ h = h0
set_option maxRecDepth 65536 in
set_option maxHeartbeats 40000000 in
theorem own_r8 (l : Launch) (Z : State) (a0 : Array Value) (hw : ∀ d ∈ tables_1, d.before a0 Z = true) (ws : List Jvm.Cond) (this : Addr) (ps en : Int32) (h0 : Heap) (n0 : Nat) (Z0 : n0 ≤ h0.size) (F_this_position : Fld Z h0 this "com/example/fold_time/foldtime/model/ByteReader" "position" "I" (.int ps)) (F_this_end : Fld Z h0 this "com/example/fold_time/foldtime/model/ByteReader" "end" "I" (.int en)) :
    MetFree l (⟨"com/example/fold_time/foldtime/model/ByteReader", "remaining", "()I"⟩ : MethodName) (head1 (Jvm.Cond.code (⟨"com/example/fold_time/foldtime/model/ByteReader", "remaining", "()I"⟩ : MethodName) prog_4_method_10_code 1 (some .int) :: ws) ({ frames := 0, cells := 0, slots := 0, locals := 0 } : Room)) (fun a U => a = #[(.ref this)] ∧ Z.Warmed39 U.vm ∧ U.heap = h0) (fun _ _ _ _ _ => True) (fun _ U o U' => ∃ v L, o = .returned v ∧ own_q_own_r8 Z this ps en h0 n0 v U'.heap L ∧ FrameEnd U o U' L ({ frames := 0, cells := 0, slots := 0, locals := 0 } : Room).cells ({ frames := 0, cells := 0, slots := 0, locals := 0 } : Room).slots) := by
  refine MetFree.of_bodySF (plainFor_of_name own_pn_ByteReader) hisR ?_
  intro p e s m args below meth c T0 Bd hml0 hP hK
  obtain ⟨rfl, hZ, hh⟩ := hP
  have hx := Bd.exec
  have hby := Bd.bytes
  have hml : c.maxLocals = 1 := hml0
  have hown : s.vm.findClass "com/example/fold_time/foldtime/model/ByteReader" = some m.cls := findClass_of_methodNamed Bd.named
  have hnm := (name_of_methodNamed Bd.named Bd.method).1
  have hret : meth.sig.returnType = (some .int) := Bd.returns
  have hlk : meth.locks = false := BodyLoose.notSynchronized Bd
  have X0 : Stand p l e ({ frames := 0, cells := 0, slots := 0, locals := 0 } : Room) s m #[(.ref this)] below meth c T0 [] 0 0 := Stand.of_body Bd
  have e0 : T0.heap = h0 := by rw [← hh, Bd.state]; rfl
  have N0 := Fr.nil n0
  refine own_start (own_ef8 m this) (Q := fun (v : Option Value) (h : Heap) (L : List Loc) => v = some (.int (en - ps)) ∧ Fr n0 L ∧ h = h0) (k := 0) (j := 0) ?_
  show own_Go p e below T0 (mkF m 0 #[.val (.ref this)] []) _
  refine own_s_aloadN X0.here hx (hb hby own_d8_0) rfl rfl ?_
  obtain ⟨T30, X30, e30, st30⟩ := getF X0 hx hZ hown (host := "") (Or.inl (hw _ (List.mem_of_getElem? (i := 23) rfl))) Via.refl e0 F_this_end (g := (mkF m 1 #[.val (.ref this)] [(.ref this)])) rfl rfl (hb hby own_d8_1)
  refine own_by st30 ?_
  show own_Go p e below T30 (mkF m 4 #[.val (.ref this)] [(.int en)]) _
  refine own_s_aloadN X30.here hx (hb hby own_d8_4) rfl rfl ?_
  obtain ⟨T31, X31, e31, st31⟩ := getF X30 hx hZ hown (host := "") (Or.inl (hw _ (List.mem_of_getElem? (i := 21) rfl))) Via.refl e30 F_this_position (g := (mkF m 5 #[.val (.ref this)] [(.ref this), (.int en)])) rfl rfl (hb hby own_d8_5)
  refine own_by st31 ?_
  show own_Go p e below T31 (mkF m 8 #[.val (.ref this)] [(.int ps), (.int en)]) _
  refine own_s_isub X31.here hx (hb hby own_d8_8) ?_
  refine own_retI X31 hx hret hlk (hb hby own_d8_9) (by decide) (by decide) ?_
  exact ⟨rfl, N0, e31⟩
theorem own_d10_0 : decode prog_4_method_7_code 0 = .ok (.aload_n 0, 1) := by decide +kernel
theorem own_d10_1 : decode prog_4_method_7_code 1 = .ok (.getfield 13, 3) := by decide +kernel
theorem own_d10_4 : decode prog_4_method_7_code 4 = .ok (.areturn, 1) := by decide +kernel
theorem own_ef10 (m : MethodId) (this : Addr) : entryFrame m #[(.ref this)] 1 = mkF m 0 #[.val (.ref this)] [] := by first | (simp [entryFrame, mkF, argsToLocals, Value.category]; done) | rfl
def own_q_own_r10 (Z : State) (this : Addr) (ba : Addr) (h0 : Heap) (n0 : Nat) (v : Option Value) (h : Heap) (L : List Loc) : Prop := v = some (.ref ba) ∧ Fr n0 L ∧ h = h0
set_option maxRecDepth 65536 in
set_option maxHeartbeats 40000000 in
theorem own_r10 (l : Launch) (Z : State) (a0 : Array Value) (hw : ∀ d ∈ tables_1, d.before a0 Z = true) (ws : List Jvm.Cond) (this : Addr) (ba : Addr) (h0 : Heap) (n0 : Nat) (Z0 : n0 ≤ h0.size) (F_this_bytes : Fld Z h0 this "com/example/fold_time/foldtime/model/ByteReader" "bytes" "[B" (.ref ba)) :
    MetFree l (⟨"com/example/fold_time/foldtime/model/ByteReader", "array", "()[B"⟩ : MethodName) (head1 (Jvm.Cond.code (⟨"com/example/fold_time/foldtime/model/ByteReader", "array", "()[B"⟩ : MethodName) prog_4_method_7_code 1 (some (.array .byte)) :: ws) ({ frames := 0, cells := 0, slots := 0, locals := 0 } : Room)) (fun a U => a = #[(.ref this)] ∧ Z.Warmed39 U.vm ∧ U.heap = h0) (fun _ _ _ _ _ => True) (fun _ U o U' => ∃ v L, o = .returned v ∧ own_q_own_r10 Z this ba h0 n0 v U'.heap L ∧ FrameEnd U o U' L ({ frames := 0, cells := 0, slots := 0, locals := 0 } : Room).cells ({ frames := 0, cells := 0, slots := 0, locals := 0 } : Room).slots) := by
  refine MetFree.of_bodySF (plainFor_of_name own_pn_ByteReader) hisR ?_
  intro p e s m args below meth c T0 Bd hml0 hP hK
  obtain ⟨rfl, hZ, hh⟩ := hP
  have hx := Bd.exec
  have hby := Bd.bytes
  have hml : c.maxLocals = 1 := hml0
  have hown : s.vm.findClass "com/example/fold_time/foldtime/model/ByteReader" = some m.cls := findClass_of_methodNamed Bd.named
  have hnm := (name_of_methodNamed Bd.named Bd.method).1
  have hret : meth.sig.returnType = (some (.array .byte)) := Bd.returns
  have hlk : meth.locks = false := BodyLoose.notSynchronized Bd
  have X0 : Stand p l e ({ frames := 0, cells := 0, slots := 0, locals := 0 } : Room) s m #[(.ref this)] below meth c T0 [] 0 0 := Stand.of_body Bd
  have e0 : T0.heap = h0 := by rw [← hh, Bd.state]; rfl
  have N0 := Fr.nil n0
  refine own_start (own_ef10 m this) (Q := fun (v : Option Value) (h : Heap) (L : List Loc) => v = some (.ref ba) ∧ Fr n0 L ∧ h = h0) (k := 0) (j := 0) ?_
  show own_Go p e below T0 (mkF m 0 #[.val (.ref this)] []) _
  refine own_s_aloadN X0.here hx (hb hby own_d10_0) rfl rfl ?_
  obtain ⟨T32, X32, e32, st32⟩ := getF X0 hx hZ hown (host := "") (Or.inl (hw _ (List.mem_of_getElem? (i := 19) rfl))) Via.refl e0 F_this_bytes (g := (mkF m 1 #[.val (.ref this)] [(.ref this)])) rfl rfl (hb hby own_d10_1)
  refine own_by st32 ?_
  show own_Go p e below T32 (mkF m 4 #[.val (.ref this)] [(.ref ba)]) _
  refine own_retA X32 hx hret hlk (hb hby own_d10_4) rfl rfl rfl (by decide) (by decide) ?_
  exact ⟨rfl, N0, e32⟩
theorem own_mk (x : Int32) : 0 ≤ (x &&& (2147483647 : Int32)).toInt := by
  have e1 : (x &&& (2147483647 : Int32)).toInt = x.toInt % 2 ^ 31 := Jvm.Kit.i32_mask x _ (k := 31) (by decide) (by decide)
  omega
theorem own_rm (x y : Int32) (h : 0 < y.toInt) : 0 ≤ ((x &&& (2147483647 : Int32)) % y).toInt ∧ ((x &&& (2147483647 : Int32)) % y).toInt < y.toInt := by
  rw [Jvm.Kit.i32_rem_nonneg (own_mk x)]
  exact ⟨Int.emod_nonneg _ (by omega), Int.emod_lt_of_pos _ h⟩
theorem own_ne0 {y : Int32} (h : 0 < y.toInt) : y ≠ 0 := fun q => by rw [q, show (0 : Int32).toInt = 0 from by decide] at h; omega
theorem own_p1 {y : Int32} {a : Int} (h : y.toInt = a) (h1 : 0 ≤ a) (h2 : a < 1000) : (y + (1 : Int32)).toInt = a + 1 := by
  have c1 : (1 : Int32).toInt = 1 := by decide
  rw [Jvm.Kit.i32_add (by rw [h, c1]; omega) (by rw [h, c1]; omega), h, c1]
theorem own_mi {x y : Int32} (h1 : 0 ≤ x.toInt) (h2 : x.toInt < 1000) (h3 : 0 ≤ y.toInt) (h4 : y.toInt < 1000) : (x - y).toInt = x.toInt - y.toInt := Jvm.Kit.i32_sub (by omega) (by omega)
theorem own_pl {x y : Int32} (h1 : 0 ≤ x.toInt) (h2 : x.toInt < 1000) (h3 : 0 ≤ y.toInt) (h4 : y.toInt < 1000) : (x + y).toInt = x.toInt + y.toInt := Jvm.Kit.i32_add (by omega) (by omega)
theorem own_nn {x : Int32} : ¬ x < 0 ↔ 0 ≤ x.toInt := by rw [Int32.lt_iff_toInt_lt, show (0 : Int32).toInt = 0 from by decide]; omega
theorem own_or {x y : Int32} (hx : 0 ≤ x.toInt) (hy : 0 ≤ y.toInt) : 0 ≤ (x ||| y).toInt := by
  have e : ∀ z : Int32, (0 ≤ z.toInt ↔ z.toBitVec.msb = false) := fun z => by
    have : z.toInt = z.toBitVec.toInt := rfl
    rw [this, BitVec.msb_eq_toInt]
    simp
  rw [e] at *
  rw [Int32.toBitVec_or, BitVec.msb_or, hx, hy]
  rfl
theorem own_chk {n off ln : Int32} (hn : n.toInt < 1000) (ho : 0 ≤ off.toInt) (ho2 : off.toInt ≤ n.toInt) (hl : 0 ≤ ln.toInt) (hl2 : ln.toInt ≤ n.toInt - off.toInt) : ¬ ((n ||| off) ||| ln) < 0 ∧ ¬ (n - off) < ln := by
  refine ⟨own_nn.mpr (own_or (own_or (by omega) ho) hl), ?_⟩
  rw [Int32.lt_iff_toInt_lt, own_mi (by omega) hn ho (by omega)]
  omega
theorem own_req {off ln k : Int32} (h0 : 0 ≤ off.toInt) (h1 : off.toInt < 1000) (h2 : 0 ≤ ln.toInt) (h3 : ln.toInt < 1000) (h5 : k.toInt ≤ ln.toInt) : ¬ ((off + ln) - off) < k := by
  rw [Int32.add_comm, Int32.add_sub_cancel, Int32.lt_iff_toInt_lt]
  omega
theorem own_hr_t {ps en : Int32} (h : ps < en) : own_hr ps en = (1 : Int32) := by unfold own_hr; rw [if_pos h]
theorem own_hr_f {ps en : Int32} (h : ¬ ps < en) : own_hr ps en = (0 : Int32) := by unfold own_hr; rw [if_neg h]
theorem own_m255 (x : Int32) : 0 ≤ (x &&& (255 : Int32)).toInt ∧ (x &&& (255 : Int32)).toInt ≤ 255 := by
  have e1 : (x &&& (255 : Int32)).toInt = x.toInt % 2 ^ 8 := Jvm.Kit.i32_mask x _ (k := 8) (by decide) (by decide)
  omega
theorem own_nat {n : Int32} (h : 0 ≤ n.toInt) (h2 : n.toInt ≤ 255) : n.toNatClampNeg ≤ 255 ∧ n.toNatClampNeg.toInt32 = n := by
  refine ⟨by simp only [Int32.toNatClampNeg]; omega, (back32 (own_nn.mpr h)).1⟩
theorem own_pn_ByteReaderSkipPinLaw : plainName "com/example/fold_time/foldtime/model/ByteReaderSkipPinLaw" = true := by first | (simp [plainName, overriddenIn]; done) | decide +kernel
theorem own_ml : maxLocals = 14 := rfl
theorem own_ef0 (m : MethodId) (a_ : Int32) (b_ : Int32) (c_ : Int32) (d_ : Int32) (e_ : Int32) : entryFrame m #[(.int a_), (.int b_), (.int c_), (.int d_), (.int e_)] maxLocals = mkF m 0 #[.val (.int a_), .val (.int b_), .val (.int c_), .val (.int d_), .val (.int e_), .unset, .unset, .unset, .unset, .unset, .unset, .unset, .unset, .unset] [] := by first | (simp [entryFrame, mkF, argsToLocals, Value.category, maxLocals]; done) | rfl
theorem own_pd_0 : parseMethodDescriptor "([BII)V" = some ⟨[(.array .byte), .int, .int], none⟩ := by decide +kernel
theorem own_pd_5 : parseMethodDescriptor "()I" = some ⟨[], some .int⟩ := by decide +kernel
theorem own_pd_6 : parseMethodDescriptor "()Z" = some ⟨[], some .boolean⟩ := by decide +kernel
theorem own_pd_7 : parseMethodDescriptor "()[B" = some ⟨[], some (.array .byte)⟩ := by decide +kernel
def own_q_own_r0 (Z : State) (a_ : Int32) (b_ : Int32) (c_ : Int32) (d_ : Int32) (e_ : Int32) (h0 : Heap) (n0 : Nat) (v : Option Value) (h : Heap) (L : List Loc) : Prop := v = some (.int 1) ∧ Fr n0 L
set_option maxRecDepth 65536 in
set_option maxHeartbeats 40000000 in
theorem own_r0 (l : Launch) (Z : State) (a0 : Array Value) (hw : ∀ d ∈ tables_1, d.before a0 Z = true) (ws : List Jvm.Cond) (a_ : Int32) (b_ : Int32) (c_ : Int32) (d_ : Int32) (e_ : Int32) (h0 : Heap) (n0 : Nat) (Z0 : n0 ≤ h0.size) :
    MetFree l x (head1 (Jvm.Cond.code x code maxLocals ret :: ws) room_1) (fun a U => a = #[(.int a_), (.int b_), (.int c_), (.int d_), (.int e_)] ∧ Z.Warmed39 U.vm ∧ U.heap = h0) (fun _ _ _ _ _ => True) (fun _ U o U' => ∃ v L, o = .returned v ∧ own_q_own_r0 Z a_ b_ c_ d_ e_ h0 n0 v U'.heap L ∧ FrameEnd U o U' L 16 640) := by
  refine MetFree.of_bodySF (plainFor_of_name own_pn_ByteReaderSkipPinLaw) hisR ?_
  intro p e s m args below meth c T0 Bd hml0 hP hK
  obtain ⟨rfl, hZ, hh⟩ := hP
  have hx := Bd.exec
  have hby := Bd.bytes
  have hml : c.maxLocals = 14 := hml0
  have hown : s.vm.findClass "com/example/fold_time/foldtime/model/ByteReaderSkipPinLaw" = some m.cls := findClass_of_methodNamed Bd.named
  have hnm := (name_of_methodNamed Bd.named Bd.method).1
  have hret : meth.sig.returnType = (some .boolean) := Bd.returns
  have hlk : meth.locks = false := BodyLoose.notSynchronized Bd
  have X0 : Stand p l e room_1 s m #[(.int a_), (.int b_), (.int c_), (.int d_), (.int e_)] below meth c T0 [] 0 0 := Stand.of_body Bd
  have e0 : T0.heap = h0 := by rw [← hh, Bd.state]; rfl
  have N0 := Fr.nil n0
  refine own_start (own_ef0 m a_ b_ c_ d_ e_) (Q := fun (v : Option Value) (h : Heap) (L : List Loc) => v = some (.int 1) ∧ Fr n0 L) (k := 16) (j := 640) ?_
  show own_Go p e below T0 (mkF m 0 #[.val (.int a_), .val (.int b_), .val (.int c_), .val (.int d_), .val (.int e_), .unset, .unset, .unset, .unset, .unset, .unset, .unset, .unset, .unset] []) _
  refine own_s_iloadN X0.here hx (hb hby at_0) rfl ?_
  refine own_s_sipush X0.here hx (255 : Int32) (hb hby at_1) rfl ?_
  refine own_s_iand X0.here hx (hb hby at_4) ?_
  refine own_s_istore X0.here hx #[.val (.int a_), .val (.int b_), .val (.int c_), .val (.int d_), .val (.int e_), .val (.int (a_ &&& (255 : Int32))), .unset, .unset, .unset, .unset, .unset, .unset, .unset, .unset] (hb hby at_5) rfl ?_
  have bn := own_m255 a_
  generalize hqn : (a_ &&& (255 : Int32)) = n at bn
  try rw [hqn]
  show own_Go p e below T0 (mkF m 7 #[.val (.int a_), .val (.int b_), .val (.int c_), .val (.int d_), .val (.int e_), .val (.int n), .unset, .unset, .unset, .unset, .unset, .unset, .unset, .unset] []) _
  have bn2 := own_nat bn.1 bn.2
  have en := own_p1 (y := n) rfl bn.1 (by omega)
  refine own_s_iload X0.here hx (hb hby at_7) rfl ?_
  obtain ⟨T33, h33, k33, X33, e33, E33, A33, st33⟩ := newP X0 hx hZ (hw _ (List.mem_of_getElem? (i := 0) rfl)) e0 (g := (mkF m 9 #[.val (.int a_), .val (.int b_), .val (.int c_), .val (.int d_), .val (.int e_), .val (.int n), .unset, .unset, .unset, .unset, .unset, .unset, .unset, .unset] [(.int n)])) rfl (hb hby at_9) rfl (own_nn.mpr bn.1) (cap := 255) bn2.1 (by decide) (by decide) (by decide)
  obtain ⟨b33, g33⟩ : ∃ z, z = h0.size := ⟨_, rfl⟩
  rw [← g33] at A33 st33
  have ge_b33 : n0 ≤ b33 := Nat.le_trans Z0 (Nat.le_of_eq g33.symm)
  have SZ33 : n0 ≤ h33.size := Nat.le_trans Z0 E33.1
  have f34 : own_Av Z h33 b33 .byte n.toNatClampNeg (fun _ => (.int (0 : Int32))) := own_Av.ofnew A33 rfl rfl
  refine own_by st33 ?_
  show own_Go p e below T33 (mkF m 11 #[.val (.int a_), .val (.int b_), .val (.int c_), .val (.int d_), .val (.int e_), .val (.int n), .unset, .unset, .unset, .unset, .unset, .unset, .unset, .unset] [(.ref b33)]) _
  refine own_s_astore X33.here hx #[.val (.int a_), .val (.int b_), .val (.int c_), .val (.int d_), .val (.int e_), .val (.int n), .val (.ref b33), .unset, .unset, .unset, .unset, .unset, .unset, .unset] (hb hby at_11) rfl rfl ?_
  refine own_s_iloadN X33.here hx (hb hby at_13) rfl ?_
  refine own_by (fun tq_ kq_ => X33.ldcInt hx hown (mvT hZ (hw _ (List.mem_of_getElem? (i := 1) rfl))) (g := (mkF m 14 #[.val (.int a_), .val (.int b_), .val (.int c_), .val (.int d_), .val (.int e_), .val (.int n), .val (.ref b33), .unset, .unset, .unset, .unset, .unset, .unset, .unset] [(.int b_)])) rfl (hb hby at_14) tq_ kq_) ?_
  show own_Go p e below T33 (mkF m 16 #[.val (.int a_), .val (.int b_), .val (.int c_), .val (.int d_), .val (.int e_), .val (.int n), .val (.ref b33), .unset, .unset, .unset, .unset, .unset, .unset, .unset] [(.int (2147483647 : Int32)), (.int b_)]) _
  refine own_s_iand X33.here hx (hb hby at_16) ?_
  refine own_s_iload X33.here hx (hb hby at_17) rfl ?_
  refine own_s_iconst X33.here hx (1 : Int32) (hb hby at_19) rfl ?_
  refine own_s_iadd X33.here hx (hb hby at_20) ?_
  refine own_by (fun tq_ kq_ => iremM X33 hx rfl (hb hby at_21) rfl (own_ne0 (by rw [en]; omega)) kq_) ?_
  show own_Go p e below T33 (mkF m 22 #[.val (.int a_), .val (.int b_), .val (.int c_), .val (.int d_), .val (.int e_), .val (.int n), .val (.ref b33), .unset, .unset, .unset, .unset, .unset, .unset, .unset] [(.int ((b_ &&& (2147483647 : Int32)) % (n + (1 : Int32))))]) _
  refine own_s_istore X33.here hx #[.val (.int a_), .val (.int b_), .val (.int c_), .val (.int d_), .val (.int e_), .val (.int n), .val (.ref b33), .val (.int ((b_ &&& (2147483647 : Int32)) % (n + (1 : Int32)))), .unset, .unset, .unset, .unset, .unset, .unset] (hb hby at_22) rfl ?_
  have boff := own_rm b_ (n + (1 : Int32)) (by rw [en]; omega)
  generalize hqoff : ((b_ &&& (2147483647 : Int32)) % (n + (1 : Int32))) = off at boff
  try rw [hqoff]
  show own_Go p e below T33 (mkF m 24 #[.val (.int a_), .val (.int b_), .val (.int c_), .val (.int d_), .val (.int e_), .val (.int n), .val (.ref b33), .val (.int off), .unset, .unset, .unset, .unset, .unset, .unset] []) _
  rw [en] at boff
  have eo := own_p1 (own_mi bn.1 (by omega) boff.1 (by omega) : (n - off).toInt = n.toInt - off.toInt) (by omega) (by omega)
  refine own_s_iloadN X33.here hx (hb hby at_24) rfl ?_
  refine own_by (fun tq_ kq_ => X33.ldcInt hx hown (mvT hZ (hw _ (List.mem_of_getElem? (i := 1) rfl))) (g := (mkF m 25 #[.val (.int a_), .val (.int b_), .val (.int c_), .val (.int d_), .val (.int e_), .val (.int n), .val (.ref b33), .val (.int off), .unset, .unset, .unset, .unset, .unset, .unset] [(.int c_)])) rfl (hb hby at_25) tq_ kq_) ?_
  show own_Go p e below T33 (mkF m 27 #[.val (.int a_), .val (.int b_), .val (.int c_), .val (.int d_), .val (.int e_), .val (.int n), .val (.ref b33), .val (.int off), .unset, .unset, .unset, .unset, .unset, .unset] [(.int (2147483647 : Int32)), (.int c_)]) _
  refine own_s_iand X33.here hx (hb hby at_27) ?_
  refine own_s_iload X33.here hx (hb hby at_28) rfl ?_
  refine own_s_iload X33.here hx (hb hby at_30) rfl ?_
  refine own_s_isub X33.here hx (hb hby at_32) ?_
  refine own_s_iconst X33.here hx (1 : Int32) (hb hby at_33) rfl ?_
  refine own_s_iadd X33.here hx (hb hby at_34) ?_
  refine own_by (fun tq_ kq_ => iremM X33 hx rfl (hb hby at_35) rfl (own_ne0 (by rw [eo]; omega)) kq_) ?_
  show own_Go p e below T33 (mkF m 36 #[.val (.int a_), .val (.int b_), .val (.int c_), .val (.int d_), .val (.int e_), .val (.int n), .val (.ref b33), .val (.int off), .unset, .unset, .unset, .unset, .unset, .unset] [(.int ((c_ &&& (2147483647 : Int32)) % ((n - off) + (1 : Int32))))]) _
  refine own_s_istore X33.here hx #[.val (.int a_), .val (.int b_), .val (.int c_), .val (.int d_), .val (.int e_), .val (.int n), .val (.ref b33), .val (.int off), .val (.int ((c_ &&& (2147483647 : Int32)) % ((n - off) + (1 : Int32)))), .unset, .unset, .unset, .unset, .unset] (hb hby at_36) rfl ?_
  have bln := own_rm c_ ((n - off) + (1 : Int32)) (by rw [eo]; omega)
  generalize hqln : ((c_ &&& (2147483647 : Int32)) % ((n - off) + (1 : Int32))) = ln at bln
  try rw [hqln]
  show own_Go p e below T33 (mkF m 38 #[.val (.int a_), .val (.int b_), .val (.int c_), .val (.int d_), .val (.int e_), .val (.int n), .val (.ref b33), .val (.int off), .val (.int ln), .unset, .unset, .unset, .unset, .unset] []) _
  rw [eo] at bln
  have el := own_p1 (y := ln) rfl bln.1 (by omega)
  refine own_s_iloadN X33.here hx (hb hby at_38) rfl ?_
  refine own_by (fun tq_ kq_ => X33.ldcInt hx hown (mvT hZ (hw _ (List.mem_of_getElem? (i := 1) rfl))) (g := (mkF m 39 #[.val (.int a_), .val (.int b_), .val (.int c_), .val (.int d_), .val (.int e_), .val (.int n), .val (.ref b33), .val (.int off), .val (.int ln), .unset, .unset, .unset, .unset, .unset] [(.int d_)])) rfl (hb hby at_39) tq_ kq_) ?_
  show own_Go p e below T33 (mkF m 41 #[.val (.int a_), .val (.int b_), .val (.int c_), .val (.int d_), .val (.int e_), .val (.int n), .val (.ref b33), .val (.int off), .val (.int ln), .unset, .unset, .unset, .unset, .unset] [(.int (2147483647 : Int32)), (.int d_)]) _
  refine own_s_iand X33.here hx (hb hby at_41) ?_
  refine own_s_iload X33.here hx (hb hby at_42) rfl ?_
  refine own_s_iconst X33.here hx (1 : Int32) (hb hby at_44) rfl ?_
  refine own_s_iadd X33.here hx (hb hby at_45) ?_
  refine own_by (fun tq_ kq_ => iremM X33 hx rfl (hb hby at_46) rfl (own_ne0 (by rw [el]; omega)) kq_) ?_
  show own_Go p e below T33 (mkF m 47 #[.val (.int a_), .val (.int b_), .val (.int c_), .val (.int d_), .val (.int e_), .val (.int n), .val (.ref b33), .val (.int off), .val (.int ln), .unset, .unset, .unset, .unset, .unset] [(.int ((d_ &&& (2147483647 : Int32)) % (ln + (1 : Int32))))]) _
  refine own_s_istore X33.here hx #[.val (.int a_), .val (.int b_), .val (.int c_), .val (.int d_), .val (.int e_), .val (.int n), .val (.ref b33), .val (.int off), .val (.int ln), .val (.int ((d_ &&& (2147483647 : Int32)) % (ln + (1 : Int32)))), .unset, .unset, .unset, .unset] (hb hby at_47) rfl ?_
  have bk1 := own_rm d_ (ln + (1 : Int32)) (by rw [el]; omega)
  generalize hqk1 : ((d_ &&& (2147483647 : Int32)) % (ln + (1 : Int32))) = k1 at bk1
  try rw [hqk1]
  show own_Go p e below T33 (mkF m 49 #[.val (.int a_), .val (.int b_), .val (.int c_), .val (.int d_), .val (.int e_), .val (.int n), .val (.ref b33), .val (.int off), .val (.int ln), .val (.int k1), .unset, .unset, .unset, .unset] []) _
  rw [el] at bk1
  have ek := own_p1 (own_mi bln.1 (by omega) bk1.1 (by omega) : (ln - k1).toInt = ln.toInt - k1.toInt) (by omega) (by omega)
  refine own_s_iload X33.here hx (hb hby at_49) rfl ?_
  refine own_by (fun tq_ kq_ => X33.ldcInt hx hown (mvT hZ (hw _ (List.mem_of_getElem? (i := 1) rfl))) (g := (mkF m 51 #[.val (.int a_), .val (.int b_), .val (.int c_), .val (.int d_), .val (.int e_), .val (.int n), .val (.ref b33), .val (.int off), .val (.int ln), .val (.int k1), .unset, .unset, .unset, .unset] [(.int e_)])) rfl (hb hby at_51) tq_ kq_) ?_
  show own_Go p e below T33 (mkF m 53 #[.val (.int a_), .val (.int b_), .val (.int c_), .val (.int d_), .val (.int e_), .val (.int n), .val (.ref b33), .val (.int off), .val (.int ln), .val (.int k1), .unset, .unset, .unset, .unset] [(.int (2147483647 : Int32)), (.int e_)]) _
  refine own_s_iand X33.here hx (hb hby at_53) ?_
  refine own_s_iload X33.here hx (hb hby at_54) rfl ?_
  refine own_s_iload X33.here hx (hb hby at_56) rfl ?_
  refine own_s_isub X33.here hx (hb hby at_58) ?_
  refine own_s_iconst X33.here hx (1 : Int32) (hb hby at_59) rfl ?_
  refine own_s_iadd X33.here hx (hb hby at_60) ?_
  refine own_by (fun tq_ kq_ => iremM X33 hx rfl (hb hby at_61) rfl (own_ne0 (by rw [ek]; omega)) kq_) ?_
  show own_Go p e below T33 (mkF m 62 #[.val (.int a_), .val (.int b_), .val (.int c_), .val (.int d_), .val (.int e_), .val (.int n), .val (.ref b33), .val (.int off), .val (.int ln), .val (.int k1), .unset, .unset, .unset, .unset] [(.int ((e_ &&& (2147483647 : Int32)) % ((ln - k1) + (1 : Int32))))]) _
  refine own_s_istore X33.here hx #[.val (.int a_), .val (.int b_), .val (.int c_), .val (.int d_), .val (.int e_), .val (.int n), .val (.ref b33), .val (.int off), .val (.int ln), .val (.int k1), .val (.int ((e_ &&& (2147483647 : Int32)) % ((ln - k1) + (1 : Int32)))), .unset, .unset, .unset] (hb hby at_62) rfl ?_
  have bk2 := own_rm e_ ((ln - k1) + (1 : Int32)) (by rw [ek]; omega)
  generalize hqk2 : ((e_ &&& (2147483647 : Int32)) % ((ln - k1) + (1 : Int32))) = k2 at bk2
  try rw [hqk2]
  show own_Go p e below T33 (mkF m 64 #[.val (.int a_), .val (.int b_), .val (.int c_), .val (.int d_), .val (.int e_), .val (.int n), .val (.ref b33), .val (.int off), .val (.int ln), .val (.int k1), .val (.int k2), .unset, .unset, .unset] []) _
  rw [ek] at bk2
  have hchk := own_chk (n := n) (off := off) (ln := ln) (by omega) boff.1 (by omega) bln.1 (by omega)
  have eok := own_pl boff.1 (by omega) bk1.1 (by omega)
  have eol := own_pl boff.1 (by omega) bln.1 (by omega)
  have elk := own_mi bln.1 (by omega) bk1.1 (by omega)
  have hrq1 := own_req (off := off) (ln := ln) (k := k1) boff.1 (by omega) bln.1 (by omega) (by omega)
  have er1 : ((off + ln) - (off + k1)) = (ln - k1) := Int32.toInt_inj.mp (by rw [own_mi (by omega) (by omega) (by omega) (by omega), eok, eol, elk]; omega)
  have hrq2 : ¬ ((off + ln) - (off + k1)) < k2 := by rw [er1, Int32.lt_iff_toInt_lt, elk]; omega
  have eokk := own_pl (x := off + k1) (y := k2) (by omega) (by omega) bk2.1 (by omega)
  have er2 : ((off + ln) - ((off + k1) + k2)) = ((ln - k1) - k2) := Int32.toInt_inj.mp (by rw [own_mi (by omega) (by omega) (by omega) (by omega), own_mi (x := ln - k1) (by omega) (by omega) bk2.1 (by omega), eokk, eok, eol, elk]; omega)
  obtain ⟨T35, h35, X35, e35, E35, A35, D35, -, st35⟩ := newO X33 hx hZ hown (hw _ (List.mem_of_getElem? (i := 2) rfl)) (hw _ (List.mem_of_getElem? (i := 3) rfl)) (hw _ (List.mem_of_getElem? (i := 4) rfl)) e33 (g := (mkF m 64 #[.val (.int a_), .val (.int b_), .val (.int c_), .val (.int d_), .val (.int e_), .val (.int n), .val (.ref b33), .val (.int off), .val (.int ln), .val (.int k1), .val (.int k2), .unset, .unset, .unset] [])) rfl (hb hby at_64) (by decide) (by decide)
  obtain ⟨b35, g35⟩ : ∃ z, z = h33.size := ⟨_, rfl⟩
  rw [← g35] at A35 D35 st35
  have ge_b35 : n0 ≤ b35 := Nat.le_trans SZ33 (Nat.le_of_eq g35.symm)
  have ne_b33_b35 : b33 ≠ b35 := Nat.ne_of_lt (Nat.lt_of_lt_of_le f34.lt (Nat.le_of_eq g35.symm))
  have f36 := f34.ext E35
  have SZ35 : n0 ≤ h35.size := Nat.le_trans SZ33 E35.1
  have f37 : Fld Z h35 b35 "com/example/fold_time/foldtime/model/ByteReader" "bytes" "[B" .null := D35 (Or.inr (hw _ (List.mem_of_getElem? (i := 20) rfl))) (ty := (.array .byte)) (by decide)
  have f38 : Fld Z h35 b35 "com/example/fold_time/foldtime/model/ByteReader" "position" "I" (.int (0 : Int32)) := D35 (Or.inl (hw _ (List.mem_of_getElem? (i := 22) rfl))) (ty := .int) (by decide)
  have f39 : Fld Z h35 b35 "com/example/fold_time/foldtime/model/ByteReader" "end" "I" (.int (0 : Int32)) := D35 (Or.inr (hw _ (List.mem_of_getElem? (i := 24) rfl))) (ty := .int) (by decide)
  refine own_by st35 ?_
  show own_Go p e below T35 (mkF m 67 #[.val (.int a_), .val (.int b_), .val (.int c_), .val (.int d_), .val (.int e_), .val (.int n), .val (.ref b33), .val (.int off), .val (.int ln), .val (.int k1), .val (.int k2), .unset, .unset, .unset] [(.ref b35)]) _
  refine own_s_dup X35.here hx (hb hby at_67) rfl ?_
  refine own_s_aload X35.here hx (hb hby at_68) rfl rfl ?_
  refine own_s_iload X35.here hx (hb hby at_70) rfl ?_
  refine own_s_iload X35.here hx (hb hby at_72) rfl ?_
  obtain ⟨_, _, ⟨T40, L40, k40, n40⟩, -, X40, ⟨Lc40, hQ40, l40, y40, z40⟩, st40⟩ := X35.specialBack hx (y := (⟨"com/example/fold_time/foldtime/model/ByteReader", "<init>", "([BII)V"⟩ : MethodName)) rfl hown (mvT hZ (hw _ (List.mem_of_getElem? (i := 5) rfl))) (mvT hZ (hw _ (List.mem_of_getElem? (i := 6) rfl))) (mvT hZ (hw _ (List.mem_of_getElem? (i := 7) rfl))) (by decide) (backOf (W := 1) (own_r1 l Z a0 hw [] b35 b33 off ln n.toNatClampNeg (fun _ => (.int (0 : Int32))) n h35 n0 SZ35 bn2.2 hchk.1 hchk.2 A35 f37 f38 f39 ge_b35 f36 ne_b33_b35) hZ (hw _ (List.mem_of_getElem? (i := 7) rfl)) (hw _ (List.mem_of_getElem? (i := 4) rfl)) (by decide) (by decide)) (g := (mkF m 74 #[.val (.int a_), .val (.int b_), .val (.int c_), .val (.int d_), .val (.int e_), .val (.int n), .val (.ref b33), .val (.int off), .val (.int ln), .val (.int k1), .val (.int k2), .unset, .unset, .unset] [(.int ln), (.int off), (.ref b33), (.ref b35), (.ref b35)])) rfl (by rw [hml]; rfl) (Steps.refl _) (a := b35) (argsL := [(.ref b33), (.int off), (.int ln)]) (rest := [(.ref b35)]) (lenOf own_pd_0 rfl) rfl (by show 2 * 0 + _ ≤ _; exact Nat.le_of_eq rfl) (hb hby at_74) (fun _ _ => ⟨rfl, e35, (by decide : 2 + 0 ≤ _), (by decide : 258 + 0 ≤ _)⟩)
  dsimp only [Pt.U, Pt.locs, Pt.cells, Pt.slots] at X40 l40 y40 z40 st40 hQ40
  subst l40 y40 z40
  obtain ⟨rfl, N40q, K40, fb40, fp40, fe40⟩ := hQ40
  have N40 := Fr.app N0 N40q
  have f41 := f36.keep K40 (ninS ne_b33_b35 nin0)
  have f42 := A35.keep K40
  have SZ40 : n0 ≤ T40.heap.size := Nat.le_trans SZ35 K40.1
  refine own_by (fun t k => st40.trans k) ?_
  show own_Go p e below T40 (mkF m 77 #[.val (.int a_), .val (.int b_), .val (.int c_), .val (.int d_), .val (.int e_), .val (.int n), .val (.ref b33), .val (.int off), .val (.int ln), .val (.int k1), .val (.int k2), .unset, .unset, .unset] [(.ref b35)]) _
  refine own_s_astore X40.here hx #[.val (.int a_), .val (.int b_), .val (.int c_), .val (.int d_), .val (.int e_), .val (.int n), .val (.ref b33), .val (.int off), .val (.int ln), .val (.int k1), .val (.int k2), .val (.ref b35), .unset, .unset] (hb hby at_77) rfl rfl ?_
  refine own_s_aload X40.here hx (hb hby at_79) rfl rfl ?_
  refine own_s_iload X40.here hx (hb hby at_81) rfl ?_
  obtain ⟨cq43, kq43, q43a, q43b, q43c⟩ := isOf hZ rfl f42
  obtain ⟨_, _, ⟨T43, L43, k43, n43⟩, -, X43, ⟨Lc43, hQ43, l43, y43, z43⟩, st43⟩ := X40.virtualBack hx (y := (⟨"com/example/fold_time/foldtime/model/ByteReader", "skip", "(I)V"⟩ : MethodName)) (z := (⟨"com/example/fold_time/foldtime/model/ByteReader", "skip", "(I)V"⟩ : MethodName)) hown (mvT hZ (hw _ (List.mem_of_getElem? (i := 25) rfl))) (mvT hZ (hw _ (List.mem_of_getElem? (i := 26) rfl))) (notFace_of_selects (args := #[]) (mvT hZ (hw _ (List.mem_of_getElem? (i := 28) rfl)))) (mvT hZ (hw _ (List.mem_of_getElem? (i := 28) rfl))) (mvT hZ (hw _ (List.mem_of_getElem? (i := 27) rfl))) (by decide) (backOf (W := 0) (own_r5 l Z a0 hw [] b35 k1 b33 off (off + ln) T40.heap n0 SZ40 hrq1 f42 fb40 fp40 fe40 ge_b35) hZ (hw _ (List.mem_of_getElem? (i := 29) rfl)) (hw _ (List.mem_of_getElem? (i := 4) rfl)) (by decide) (by decide)) q43a q43c (g := (mkF m 83 #[.val (.int a_), .val (.int b_), .val (.int c_), .val (.int d_), .val (.int e_), .val (.int n), .val (.ref b33), .val (.int off), .val (.int ln), .val (.int k1), .val (.int k2), .val (.ref b35), .unset, .unset] [(.int k1), (.ref b35)])) rfl (by rw [hml]; rfl) (Steps.refl _) (argsL := [(.int k1)]) (rest := []) (lenOf own_pd_4 rfl) rfl (by show 2 * 0 + _ ≤ _; exact Nat.le_of_eq rfl) (hb hby at_83) (fun _ _ => ⟨rfl, rfl, (by decide : 2 + 0 ≤ _), (by decide : 258 + 0 ≤ _)⟩)
  dsimp only [Pt.U, Pt.locs, Pt.cells, Pt.slots] at X43 l43 y43 z43 st43 hQ43
  subst l43 y43 z43
  obtain ⟨rfl, N43q, K43, fb43, fp43, fe43⟩ := hQ43
  have N43 := Fr.app N40 N43q
  have f44 := f41.keep K43 (ninS ne_b33_b35 nin0)
  have f45 := f42.keep K43
  have SZ43 : n0 ≤ T43.heap.size := Nat.le_trans SZ40 K43.1
  refine own_by (fun t k => st43.trans k) ?_
  show own_Go p e below T43 (mkF m 86 #[.val (.int a_), .val (.int b_), .val (.int c_), .val (.int d_), .val (.int e_), .val (.int n), .val (.ref b33), .val (.int off), .val (.int ln), .val (.int k1), .val (.int k2), .val (.ref b35), .unset, .unset] []) _
  refine own_s_aload X43.here hx (hb hby at_86) rfl rfl ?_
  obtain ⟨cq46, kq46, q46a, q46b, q46c⟩ := isOf hZ rfl f45
  obtain ⟨_, _, ⟨T46, L46, k46, n46⟩, -, X46, ⟨Lc46, hQ46, l46, y46, z46⟩, st46⟩ := X43.virtualBack hx (y := (⟨"com/example/fold_time/foldtime/model/ByteReader", "position", "()I"⟩ : MethodName)) (z := (⟨"com/example/fold_time/foldtime/model/ByteReader", "position", "()I"⟩ : MethodName)) hown (mvT hZ (hw _ (List.mem_of_getElem? (i := 34) rfl))) (mvT hZ (hw _ (List.mem_of_getElem? (i := 35) rfl))) (notFace_of_selects (args := #[]) (mvT hZ (hw _ (List.mem_of_getElem? (i := 37) rfl)))) (mvT hZ (hw _ (List.mem_of_getElem? (i := 37) rfl))) (mvT hZ (hw _ (List.mem_of_getElem? (i := 36) rfl))) (by decide) (backOf (W := 0) (own_r7 l Z a0 hw [] b35 (off + k1) T43.heap n0 SZ43 fp43) hZ (hw _ (List.mem_of_getElem? (i := 38) rfl)) (hw _ (List.mem_of_getElem? (i := 4) rfl)) (by decide) (by decide)) q46a q46c (g := (mkF m 88 #[.val (.int a_), .val (.int b_), .val (.int c_), .val (.int d_), .val (.int e_), .val (.int n), .val (.ref b33), .val (.int off), .val (.int ln), .val (.int k1), .val (.int k2), .val (.ref b35), .unset, .unset] [(.ref b35)])) rfl (by rw [hml]; rfl) (Steps.refl _) (argsL := []) (rest := []) (lenOf own_pd_5 rfl) rfl (by show 2 * 0 + _ ≤ _; exact Nat.le_of_eq rfl) (hb hby at_88) (fun _ _ => ⟨rfl, rfl, (by decide : 2 + 0 ≤ _), (by decide : 258 + 0 ≤ _)⟩)
  dsimp only [Pt.U, Pt.locs, Pt.cells, Pt.slots] at X46 l46 y46 z46 st46 hQ46
  subst l46 y46 z46
  obtain ⟨rfl, N46q, e46⟩ := hQ46
  have N46 := Fr.app N43 N46q
  refine own_by (fun t k => st46.trans k) ?_
  show own_Go p e below T46 (mkF m 91 #[.val (.int a_), .val (.int b_), .val (.int c_), .val (.int d_), .val (.int e_), .val (.int n), .val (.ref b33), .val (.int off), .val (.int ln), .val (.int k1), .val (.int k2), .val (.ref b35), .unset, .unset] [(.int (off + k1))]) _
  refine own_s_iload X46.here hx (hb hby at_91) rfl ?_
  refine own_s_iload X46.here hx (hb hby at_93) rfl ?_
  refine own_s_iadd X46.here hx (hb hby at_95) ?_
  refine own_s_icmpNo X46.here hx (hb hby at_96) (Jvm.Free.XT.ii_ne_f rfl) ?_
  refine own_s_aload X46.here hx (hb hby at_99) rfl rfl ?_
  obtain ⟨cq47, kq47, q47a, q47b, q47c⟩ := isOf hZ e46 f45
  obtain ⟨_, _, ⟨T47, L47, k47, n47⟩, -, X47, ⟨Lc47, hQ47, l47, y47, z47⟩, st47⟩ := X46.virtualBack hx (y := (⟨"com/example/fold_time/foldtime/model/ByteReader", "remaining", "()I"⟩ : MethodName)) (z := (⟨"com/example/fold_time/foldtime/model/ByteReader", "remaining", "()I"⟩ : MethodName)) hown (mvT hZ (hw _ (List.mem_of_getElem? (i := 39) rfl))) (mvT hZ (hw _ (List.mem_of_getElem? (i := 40) rfl))) (notFace_of_selects (args := #[]) (mvT hZ (hw _ (List.mem_of_getElem? (i := 42) rfl)))) (mvT hZ (hw _ (List.mem_of_getElem? (i := 42) rfl))) (mvT hZ (hw _ (List.mem_of_getElem? (i := 41) rfl))) (by decide) (backOf (W := 0) (own_r8 l Z a0 hw [] b35 (off + k1) (off + ln) T43.heap n0 SZ43 fp43 fe43) hZ (hw _ (List.mem_of_getElem? (i := 43) rfl)) (hw _ (List.mem_of_getElem? (i := 4) rfl)) (by decide) (by decide)) q47a q47c (g := (mkF m 101 #[.val (.int a_), .val (.int b_), .val (.int c_), .val (.int d_), .val (.int e_), .val (.int n), .val (.ref b33), .val (.int off), .val (.int ln), .val (.int k1), .val (.int k2), .val (.ref b35), .unset, .unset] [(.ref b35)])) rfl (by rw [hml]; rfl) (Steps.refl _) (argsL := []) (rest := []) (lenOf own_pd_5 rfl) rfl (by show 2 * 0 + _ ≤ _; exact Nat.le_of_eq rfl) (hb hby at_101) (fun _ _ => ⟨rfl, e46, (by decide : 2 + 0 ≤ _), (by decide : 258 + 0 ≤ _)⟩)
  dsimp only [Pt.U, Pt.locs, Pt.cells, Pt.slots] at X47 l47 y47 z47 st47 hQ47
  subst l47 y47 z47
  obtain ⟨rfl, N47q, e47⟩ := hQ47
  have N47 := Fr.app N46 N47q
  refine own_by (fun t k => st47.trans k) ?_
  show own_Go p e below T47 (mkF m 104 #[.val (.int a_), .val (.int b_), .val (.int c_), .val (.int d_), .val (.int e_), .val (.int n), .val (.ref b33), .val (.int off), .val (.int ln), .val (.int k1), .val (.int k2), .val (.ref b35), .unset, .unset] [(.int ((off + ln) - (off + k1)))]) _
  refine own_s_iload X47.here hx (hb hby at_104) rfl ?_
  refine own_s_iload X47.here hx (hb hby at_106) rfl ?_
  refine own_s_isub X47.here hx (hb hby at_108) ?_
  refine own_s_icmpNo X47.here hx (hb hby at_109) (Jvm.Free.XT.ii_ne_f er1) ?_
  refine own_s_aload X47.here hx (hb hby at_112) rfl rfl ?_
  obtain ⟨cq48, kq48, q48a, q48b, q48c⟩ := isOf hZ e47 f45
  obtain ⟨_, _, ⟨T48, L48, k48, n48⟩, -, X48, ⟨Lc48, hQ48, l48, y48, z48⟩, st48⟩ := X47.virtualBack hx (y := (⟨"com/example/fold_time/foldtime/model/ByteReader", "hasRemaining", "()Z"⟩ : MethodName)) (z := (⟨"com/example/fold_time/foldtime/model/ByteReader", "hasRemaining", "()Z"⟩ : MethodName)) hown (mvT hZ (hw _ (List.mem_of_getElem? (i := 44) rfl))) (mvT hZ (hw _ (List.mem_of_getElem? (i := 45) rfl))) (notFace_of_selects (args := #[]) (mvT hZ (hw _ (List.mem_of_getElem? (i := 47) rfl)))) (mvT hZ (hw _ (List.mem_of_getElem? (i := 47) rfl))) (mvT hZ (hw _ (List.mem_of_getElem? (i := 46) rfl))) (by decide) (backOf (W := 0) (own_r9 l Z a0 hw [] b35 (off + k1) (off + ln) T43.heap n0 SZ43 fp43 fe43) hZ (hw _ (List.mem_of_getElem? (i := 48) rfl)) (hw _ (List.mem_of_getElem? (i := 4) rfl)) (by decide) (by decide)) q48a q48c (g := (mkF m 114 #[.val (.int a_), .val (.int b_), .val (.int c_), .val (.int d_), .val (.int e_), .val (.int n), .val (.ref b33), .val (.int off), .val (.int ln), .val (.int k1), .val (.int k2), .val (.ref b35), .unset, .unset] [(.ref b35)])) rfl (by rw [hml]; rfl) (Steps.refl _) (argsL := []) (rest := []) (lenOf own_pd_6 rfl) rfl (by show 2 * 0 + _ ≤ _; exact Nat.le_of_eq rfl) (hb hby at_114) (fun _ _ => ⟨rfl, e47, (by decide : 2 + 0 ≤ _), (by decide : 258 + 0 ≤ _)⟩)
  dsimp only [Pt.U, Pt.locs, Pt.cells, Pt.slots] at X48 l48 y48 z48 st48 hQ48
  subst l48 y48 z48
  obtain ⟨rfl, N48q, e48⟩ := hQ48
  have N48 := Fr.app N47 N48q
  refine own_by (fun t k => st48.trans k) ?_
  show own_Go p e below T48 (mkF m 117 #[.val (.int a_), .val (.int b_), .val (.int c_), .val (.int d_), .val (.int e_), .val (.int n), .val (.ref b33), .val (.int off), .val (.int ln), .val (.int k1), .val (.int k2), .val (.ref b35), .unset, .unset] [(.int (own_hr (off + k1) (off + ln)))]) _
  refine own_s_iload X48.here hx (hb hby at_117) rfl ?_
  refine own_s_iload X48.here hx (hb hby at_119) rfl ?_
  by_cases hc121 : k1 < ln
  ·
    refine own_s_icmpNo X48.here hx (hb hby at_121) (Jvm.Free.XT.ii_ge_f hc121) ?_
    refine own_s_iconst X48.here hx (1 : Int32) (hb hby at_124) rfl ?_
    show own_Go p e below T48 (mkF m 125 #[.val (.int a_), .val (.int b_), .val (.int c_), .val (.int d_), .val (.int e_), .val (.int n), .val (.ref b33), .val (.int off), .val (.int ln), .val (.int k1), .val (.int k2), .val (.ref b35), .unset, .unset] [(.int (1 : Int32)), (.int (own_hr (off + k1) (off + ln)))]) _
    refine own_s_goto X48.here hx 129 (hb hby at_125) (by decide) (by decide) ?_
    have hl1 : ((off + k1) < (off + ln)) := by
      rw [Int32.lt_iff_toInt_lt] at hc121
      rw [Int32.lt_iff_toInt_lt, eok, eol]
      omega
    refine own_s_icmpNo X48.here hx (hb hby at_129) (Jvm.Free.XT.ii_ne_f ((own_hr_t hl1))) ?_
    refine own_s_iconst X48.here hx (1 : Int32) (hb hby at_132) rfl ?_
    show own_Go p e below T48 (mkF m 133 #[.val (.int a_), .val (.int b_), .val (.int c_), .val (.int d_), .val (.int e_), .val (.int n), .val (.ref b33), .val (.int off), .val (.int ln), .val (.int k1), .val (.int k2), .val (.ref b35), .unset, .unset] [(.int (1 : Int32))]) _
    refine own_s_goto X48.here hx 137 (hb hby at_133) (by decide) (by decide) ?_
    refine own_s_istore X48.here hx #[.val (.int a_), .val (.int b_), .val (.int c_), .val (.int d_), .val (.int e_), .val (.int n), .val (.ref b33), .val (.int off), .val (.int ln), .val (.int k1), .val (.int k2), .val (.ref b35), .val (.int (1 : Int32)), .unset] (hb hby at_137) rfl ?_
    refine own_s_aload X48.here hx (hb hby at_139) rfl rfl ?_
    refine own_s_iload X48.here hx (hb hby at_141) rfl ?_
    obtain ⟨cq49, kq49, q49a, q49b, q49c⟩ := isOf hZ e48 f45
    obtain ⟨_, _, ⟨T49, L49, k49, n49⟩, -, X49, ⟨Lc49, hQ49, l49, y49, z49⟩, st49⟩ := X48.virtualBack hx (y := (⟨"com/example/fold_time/foldtime/model/ByteReader", "skip", "(I)V"⟩ : MethodName)) (z := (⟨"com/example/fold_time/foldtime/model/ByteReader", "skip", "(I)V"⟩ : MethodName)) hown (mvT hZ (hw _ (List.mem_of_getElem? (i := 25) rfl))) (mvT hZ (hw _ (List.mem_of_getElem? (i := 26) rfl))) (notFace_of_selects (args := #[]) (mvT hZ (hw _ (List.mem_of_getElem? (i := 28) rfl)))) (mvT hZ (hw _ (List.mem_of_getElem? (i := 28) rfl))) (mvT hZ (hw _ (List.mem_of_getElem? (i := 27) rfl))) (by decide) (backOf (W := 0) (own_r5 l Z a0 hw [] b35 k2 b33 (off + k1) (off + ln) T43.heap n0 SZ43 hrq2 f45 fb43 fp43 fe43 ge_b35) hZ (hw _ (List.mem_of_getElem? (i := 29) rfl)) (hw _ (List.mem_of_getElem? (i := 4) rfl)) (by decide) (by decide)) q49a q49c (g := (mkF m 143 #[.val (.int a_), .val (.int b_), .val (.int c_), .val (.int d_), .val (.int e_), .val (.int n), .val (.ref b33), .val (.int off), .val (.int ln), .val (.int k1), .val (.int k2), .val (.ref b35), .val (.int (1 : Int32)), .unset] [(.int k2), (.ref b35)])) rfl (by rw [hml]; rfl) (Steps.refl _) (argsL := [(.int k2)]) (rest := []) (lenOf own_pd_4 rfl) rfl (by show 2 * 0 + _ ≤ _; exact Nat.le_of_eq rfl) (hb hby at_143) (fun _ _ => ⟨rfl, e48, (by decide : 2 + 0 ≤ _), (by decide : 258 + 0 ≤ _)⟩)
    dsimp only [Pt.U, Pt.locs, Pt.cells, Pt.slots] at X49 l49 y49 z49 st49 hQ49
    subst l49 y49 z49
    obtain ⟨rfl, N49q, K49, fb49, fp49, fe49⟩ := hQ49
    have N49 := Fr.app N48 N49q
    have f50 := f44.keep K49 (ninS ne_b33_b35 nin0)
    have f51 := f45.keep K49
    have SZ49 : n0 ≤ T49.heap.size := Nat.le_trans SZ43 K49.1
    refine own_by (fun t k => st49.trans k) ?_
    show own_Go p e below T49 (mkF m 146 #[.val (.int a_), .val (.int b_), .val (.int c_), .val (.int d_), .val (.int e_), .val (.int n), .val (.ref b33), .val (.int off), .val (.int ln), .val (.int k1), .val (.int k2), .val (.ref b35), .val (.int (1 : Int32)), .unset] []) _
    refine own_s_aload X49.here hx (hb hby at_146) rfl rfl ?_
    obtain ⟨cq52, kq52, q52a, q52b, q52c⟩ := isOf hZ rfl f51
    obtain ⟨_, _, ⟨T52, L52, k52, n52⟩, -, X52, ⟨Lc52, hQ52, l52, y52, z52⟩, st52⟩ := X49.virtualBack hx (y := (⟨"com/example/fold_time/foldtime/model/ByteReader", "position", "()I"⟩ : MethodName)) (z := (⟨"com/example/fold_time/foldtime/model/ByteReader", "position", "()I"⟩ : MethodName)) hown (mvT hZ (hw _ (List.mem_of_getElem? (i := 34) rfl))) (mvT hZ (hw _ (List.mem_of_getElem? (i := 35) rfl))) (notFace_of_selects (args := #[]) (mvT hZ (hw _ (List.mem_of_getElem? (i := 37) rfl)))) (mvT hZ (hw _ (List.mem_of_getElem? (i := 37) rfl))) (mvT hZ (hw _ (List.mem_of_getElem? (i := 36) rfl))) (by decide) (backOf (W := 0) (own_r7 l Z a0 hw [] b35 ((off + k1) + k2) T49.heap n0 SZ49 fp49) hZ (hw _ (List.mem_of_getElem? (i := 38) rfl)) (hw _ (List.mem_of_getElem? (i := 4) rfl)) (by decide) (by decide)) q52a q52c (g := (mkF m 148 #[.val (.int a_), .val (.int b_), .val (.int c_), .val (.int d_), .val (.int e_), .val (.int n), .val (.ref b33), .val (.int off), .val (.int ln), .val (.int k1), .val (.int k2), .val (.ref b35), .val (.int (1 : Int32)), .unset] [(.ref b35)])) rfl (by rw [hml]; rfl) (Steps.refl _) (argsL := []) (rest := []) (lenOf own_pd_5 rfl) rfl (by show 2 * 0 + _ ≤ _; exact Nat.le_of_eq rfl) (hb hby at_148) (fun _ _ => ⟨rfl, rfl, (by decide : 2 + 0 ≤ _), (by decide : 258 + 0 ≤ _)⟩)
    dsimp only [Pt.U, Pt.locs, Pt.cells, Pt.slots] at X52 l52 y52 z52 st52 hQ52
    subst l52 y52 z52
    obtain ⟨rfl, N52q, e52⟩ := hQ52
    have N52 := Fr.app N49 N52q
    refine own_by (fun t k => st52.trans k) ?_
    show own_Go p e below T52 (mkF m 151 #[.val (.int a_), .val (.int b_), .val (.int c_), .val (.int d_), .val (.int e_), .val (.int n), .val (.ref b33), .val (.int off), .val (.int ln), .val (.int k1), .val (.int k2), .val (.ref b35), .val (.int (1 : Int32)), .unset] [(.int ((off + k1) + k2))]) _
    refine own_s_iload X52.here hx (hb hby at_151) rfl ?_
    refine own_s_iload X52.here hx (hb hby at_153) rfl ?_
    refine own_s_iadd X52.here hx (hb hby at_155) ?_
    refine own_s_iload X52.here hx (hb hby at_156) rfl ?_
    refine own_s_iadd X52.here hx (hb hby at_158) ?_
    refine own_s_icmpNo X52.here hx (hb hby at_159) (Jvm.Free.XT.ii_ne_f rfl) ?_
    refine own_s_aload X52.here hx (hb hby at_162) rfl rfl ?_
    obtain ⟨cq53, kq53, q53a, q53b, q53c⟩ := isOf hZ e52 f51
    obtain ⟨_, _, ⟨T53, L53, k53, n53⟩, -, X53, ⟨Lc53, hQ53, l53, y53, z53⟩, st53⟩ := X52.virtualBack hx (y := (⟨"com/example/fold_time/foldtime/model/ByteReader", "remaining", "()I"⟩ : MethodName)) (z := (⟨"com/example/fold_time/foldtime/model/ByteReader", "remaining", "()I"⟩ : MethodName)) hown (mvT hZ (hw _ (List.mem_of_getElem? (i := 39) rfl))) (mvT hZ (hw _ (List.mem_of_getElem? (i := 40) rfl))) (notFace_of_selects (args := #[]) (mvT hZ (hw _ (List.mem_of_getElem? (i := 42) rfl)))) (mvT hZ (hw _ (List.mem_of_getElem? (i := 42) rfl))) (mvT hZ (hw _ (List.mem_of_getElem? (i := 41) rfl))) (by decide) (backOf (W := 0) (own_r8 l Z a0 hw [] b35 ((off + k1) + k2) (off + ln) T49.heap n0 SZ49 fp49 fe49) hZ (hw _ (List.mem_of_getElem? (i := 43) rfl)) (hw _ (List.mem_of_getElem? (i := 4) rfl)) (by decide) (by decide)) q53a q53c (g := (mkF m 164 #[.val (.int a_), .val (.int b_), .val (.int c_), .val (.int d_), .val (.int e_), .val (.int n), .val (.ref b33), .val (.int off), .val (.int ln), .val (.int k1), .val (.int k2), .val (.ref b35), .val (.int (1 : Int32)), .unset] [(.ref b35)])) rfl (by rw [hml]; rfl) (Steps.refl _) (argsL := []) (rest := []) (lenOf own_pd_5 rfl) rfl (by show 2 * 0 + _ ≤ _; exact Nat.le_of_eq rfl) (hb hby at_164) (fun _ _ => ⟨rfl, e52, (by decide : 2 + 0 ≤ _), (by decide : 258 + 0 ≤ _)⟩)
    dsimp only [Pt.U, Pt.locs, Pt.cells, Pt.slots] at X53 l53 y53 z53 st53 hQ53
    subst l53 y53 z53
    obtain ⟨rfl, N53q, e53⟩ := hQ53
    have N53 := Fr.app N52 N53q
    refine own_by (fun t k => st53.trans k) ?_
    show own_Go p e below T53 (mkF m 167 #[.val (.int a_), .val (.int b_), .val (.int c_), .val (.int d_), .val (.int e_), .val (.int n), .val (.ref b33), .val (.int off), .val (.int ln), .val (.int k1), .val (.int k2), .val (.ref b35), .val (.int (1 : Int32)), .unset] [(.int ((off + ln) - ((off + k1) + k2)))]) _
    refine own_s_iload X53.here hx (hb hby at_167) rfl ?_
    refine own_s_iload X53.here hx (hb hby at_169) rfl ?_
    refine own_s_isub X53.here hx (hb hby at_171) ?_
    refine own_s_iload X53.here hx (hb hby at_172) rfl ?_
    refine own_s_isub X53.here hx (hb hby at_174) ?_
    refine own_s_icmpNo X53.here hx (hb hby at_175) (Jvm.Free.XT.ii_ne_f er2) ?_
    refine own_s_aload X53.here hx (hb hby at_178) rfl rfl ?_
    obtain ⟨cq54, kq54, q54a, q54b, q54c⟩ := isOf hZ e53 f51
    obtain ⟨_, _, ⟨T54, L54, k54, n54⟩, -, X54, ⟨Lc54, hQ54, l54, y54, z54⟩, st54⟩ := X53.virtualBack hx (y := (⟨"com/example/fold_time/foldtime/model/ByteReader", "hasRemaining", "()Z"⟩ : MethodName)) (z := (⟨"com/example/fold_time/foldtime/model/ByteReader", "hasRemaining", "()Z"⟩ : MethodName)) hown (mvT hZ (hw _ (List.mem_of_getElem? (i := 44) rfl))) (mvT hZ (hw _ (List.mem_of_getElem? (i := 45) rfl))) (notFace_of_selects (args := #[]) (mvT hZ (hw _ (List.mem_of_getElem? (i := 47) rfl)))) (mvT hZ (hw _ (List.mem_of_getElem? (i := 47) rfl))) (mvT hZ (hw _ (List.mem_of_getElem? (i := 46) rfl))) (by decide) (backOf (W := 0) (own_r9 l Z a0 hw [] b35 ((off + k1) + k2) (off + ln) T49.heap n0 SZ49 fp49 fe49) hZ (hw _ (List.mem_of_getElem? (i := 48) rfl)) (hw _ (List.mem_of_getElem? (i := 4) rfl)) (by decide) (by decide)) q54a q54c (g := (mkF m 180 #[.val (.int a_), .val (.int b_), .val (.int c_), .val (.int d_), .val (.int e_), .val (.int n), .val (.ref b33), .val (.int off), .val (.int ln), .val (.int k1), .val (.int k2), .val (.ref b35), .val (.int (1 : Int32)), .unset] [(.ref b35)])) rfl (by rw [hml]; rfl) (Steps.refl _) (argsL := []) (rest := []) (lenOf own_pd_6 rfl) rfl (by show 2 * 0 + _ ≤ _; exact Nat.le_of_eq rfl) (hb hby at_180) (fun _ _ => ⟨rfl, e53, (by decide : 2 + 0 ≤ _), (by decide : 258 + 0 ≤ _)⟩)
    dsimp only [Pt.U, Pt.locs, Pt.cells, Pt.slots] at X54 l54 y54 z54 st54 hQ54
    subst l54 y54 z54
    obtain ⟨rfl, N54q, e54⟩ := hQ54
    have N54 := Fr.app N53 N54q
    refine own_by (fun t k => st54.trans k) ?_
    show own_Go p e below T54 (mkF m 183 #[.val (.int a_), .val (.int b_), .val (.int c_), .val (.int d_), .val (.int e_), .val (.int n), .val (.ref b33), .val (.int off), .val (.int ln), .val (.int k1), .val (.int k2), .val (.ref b35), .val (.int (1 : Int32)), .unset] [(.int (own_hr ((off + k1) + k2) (off + ln)))]) _
    refine own_s_iload X54.here hx (hb hby at_183) rfl ?_
    refine own_s_iload X54.here hx (hb hby at_185) rfl ?_
    refine own_s_iadd X54.here hx (hb hby at_187) ?_
    refine own_s_iload X54.here hx (hb hby at_188) rfl ?_
    by_cases hc190 : (k1 + k2) < ln
    ·
      refine own_s_icmpNo X54.here hx (hb hby at_190) (Jvm.Free.XT.ii_ge_f hc190) ?_
      refine own_s_iconst X54.here hx (1 : Int32) (hb hby at_193) rfl ?_
      show own_Go p e below T54 (mkF m 194 #[.val (.int a_), .val (.int b_), .val (.int c_), .val (.int d_), .val (.int e_), .val (.int n), .val (.ref b33), .val (.int off), .val (.int ln), .val (.int k1), .val (.int k2), .val (.ref b35), .val (.int (1 : Int32)), .unset] [(.int (1 : Int32)), (.int (own_hr ((off + k1) + k2) (off + ln)))]) _
      refine own_s_goto X54.here hx 198 (hb hby at_194) (by decide) (by decide) ?_
      have hl2 : (((off + k1) + k2) < (off + ln)) := by
        rw [Int32.lt_iff_toInt_lt, own_pl bk1.1 (by omega) bk2.1 (by omega)] at hc190
        rw [Int32.lt_iff_toInt_lt, eokk, eok, eol]
        omega
      refine own_s_icmpNo X54.here hx (hb hby at_198) (Jvm.Free.XT.ii_ne_f ((own_hr_t hl2))) ?_
      refine own_s_iconst X54.here hx (1 : Int32) (hb hby at_201) rfl ?_
      show own_Go p e below T54 (mkF m 202 #[.val (.int a_), .val (.int b_), .val (.int c_), .val (.int d_), .val (.int e_), .val (.int n), .val (.ref b33), .val (.int off), .val (.int ln), .val (.int k1), .val (.int k2), .val (.ref b35), .val (.int (1 : Int32)), .unset] [(.int (1 : Int32))]) _
      refine own_s_goto X54.here hx 206 (hb hby at_202) (by decide) (by decide) ?_
      refine own_s_istore X54.here hx #[.val (.int a_), .val (.int b_), .val (.int c_), .val (.int d_), .val (.int e_), .val (.int n), .val (.ref b33), .val (.int off), .val (.int ln), .val (.int k1), .val (.int k2), .val (.ref b35), .val (.int (1 : Int32)), .val (.int (1 : Int32))] (hb hby at_206) rfl ?_
      refine own_s_iload X54.here hx (hb hby at_208) rfl ?_
      refine own_s_ifNo X54.here hx (hb hby at_210) (Jvm.Free.XT.i0_eq_f ((by decide))) ?_
      refine own_s_iload X54.here hx (hb hby at_213) rfl ?_
      refine own_s_ifNo X54.here hx (hb hby at_215) (Jvm.Free.XT.i0_eq_f ((by decide))) ?_
      refine own_s_aload X54.here hx (hb hby at_218) rfl rfl ?_
      obtain ⟨cq55, kq55, q55a, q55b, q55c⟩ := isOf hZ e54 f51
      obtain ⟨_, _, ⟨T55, L55, k55, n55⟩, -, X55, ⟨Lc55, hQ55, l55, y55, z55⟩, st55⟩ := X54.virtualBack hx (y := (⟨"com/example/fold_time/foldtime/model/ByteReader", "array", "()[B"⟩ : MethodName)) (z := (⟨"com/example/fold_time/foldtime/model/ByteReader", "array", "()[B"⟩ : MethodName)) hown (mvT hZ (hw _ (List.mem_of_getElem? (i := 49) rfl))) (mvT hZ (hw _ (List.mem_of_getElem? (i := 50) rfl))) (notFace_of_selects (args := #[]) (mvT hZ (hw _ (List.mem_of_getElem? (i := 52) rfl)))) (mvT hZ (hw _ (List.mem_of_getElem? (i := 52) rfl))) (mvT hZ (hw _ (List.mem_of_getElem? (i := 51) rfl))) (by decide) (backOf (W := 0) (own_r10 l Z a0 hw [] b35 b33 T49.heap n0 SZ49 fb49) hZ (hw _ (List.mem_of_getElem? (i := 53) rfl)) (hw _ (List.mem_of_getElem? (i := 4) rfl)) (by decide) (by decide)) q55a q55c (g := (mkF m 220 #[.val (.int a_), .val (.int b_), .val (.int c_), .val (.int d_), .val (.int e_), .val (.int n), .val (.ref b33), .val (.int off), .val (.int ln), .val (.int k1), .val (.int k2), .val (.ref b35), .val (.int (1 : Int32)), .val (.int (1 : Int32))] [(.ref b35)])) rfl (by rw [hml]; rfl) (Steps.refl _) (argsL := []) (rest := []) (lenOf own_pd_7 rfl) rfl (by show 2 * 0 + _ ≤ _; exact Nat.le_of_eq rfl) (hb hby at_220) (fun _ _ => ⟨rfl, e54, (by decide : 2 + 0 ≤ _), (by decide : 258 + 0 ≤ _)⟩)
      dsimp only [Pt.U, Pt.locs, Pt.cells, Pt.slots] at X55 l55 y55 z55 st55 hQ55
      subst l55 y55 z55
      obtain ⟨rfl, N55q, e55⟩ := hQ55
      have N55 := Fr.app N54 N55q
      refine own_by (fun t k => st55.trans k) ?_
      show own_Go p e below T55 (mkF m 223 #[.val (.int a_), .val (.int b_), .val (.int c_), .val (.int d_), .val (.int e_), .val (.int n), .val (.ref b33), .val (.int off), .val (.int ln), .val (.int k1), .val (.int k2), .val (.ref b35), .val (.int (1 : Int32)), .val (.int (1 : Int32))] [(.ref b33)]) _
      refine own_s_aload X55.here hx (hb hby at_223) rfl rfl ?_
      refine own_by (fun tq_ kq_ => Jvm.RoadKit.acmp (g := (mkF m 225 #[.val (.int a_), .val (.int b_), .val (.int c_), .val (.int d_), .val (.int e_), .val (.int n), .val (.ref b33), .val (.int off), .val (.int ln), .val (.int k1), .val (.int k2), .val (.ref b35), .val (.int (1 : Int32)), .val (.int (1 : Int32))] [(.ref b33), (.ref b33)])) X55 hx rfl rfl rfl (pc0 := 225) (pc' := 228) (same := true) rfl (hb hby at_225) rfl (decide_eq_true rfl) (by decide) (by decide) kq_) ?_
      show own_Go p e below T55 (mkF m 228 #[.val (.int a_), .val (.int b_), .val (.int c_), .val (.int d_), .val (.int e_), .val (.int n), .val (.ref b33), .val (.int off), .val (.int ln), .val (.int k1), .val (.int k2), .val (.ref b35), .val (.int (1 : Int32)), .val (.int (1 : Int32))] []) _
      refine own_s_iconst X55.here hx (1 : Int32) (hb hby at_228) rfl ?_
      show own_Go p e below T55 (mkF m 229 #[.val (.int a_), .val (.int b_), .val (.int c_), .val (.int d_), .val (.int e_), .val (.int n), .val (.ref b33), .val (.int off), .val (.int ln), .val (.int k1), .val (.int k2), .val (.ref b35), .val (.int (1 : Int32)), .val (.int (1 : Int32))] [(.int (1 : Int32))]) _
      refine own_s_goto X55.here hx 233 (hb hby at_229) (by decide) (by decide) ?_
      refine own_retZ X55 hx hret hlk (hb hby at_233) rfl (by decide) (by decide) ?_
      exact ⟨rfl, N55⟩
    ·
      show own_Go p e below T54 (mkF m 190 #[.val (.int a_), .val (.int b_), .val (.int c_), .val (.int d_), .val (.int e_), .val (.int n), .val (.ref b33), .val (.int off), .val (.int ln), .val (.int k1), .val (.int k2), .val (.ref b35), .val (.int (1 : Int32)), .unset] [(.int ln), (.int (k1 + k2)), (.int (own_hr ((off + k1) + k2) (off + ln)))]) _
      refine own_s_icmpYes X54.here hx 197 (hb hby at_190) (Jvm.Free.XT.ii_ge_t hc190) (by decide) (by decide) ?_
      refine own_s_iconst X54.here hx (0 : Int32) (hb hby at_197) rfl ?_
      have hl2 : ¬ (((off + k1) + k2) < (off + ln)) := by
        rw [Int32.lt_iff_toInt_lt, own_pl bk1.1 (by omega) bk2.1 (by omega)] at hc190
        rw [Int32.lt_iff_toInt_lt, eokk, eok, eol]
        omega
      refine own_s_icmpNo X54.here hx (hb hby at_198) (Jvm.Free.XT.ii_ne_f ((own_hr_f hl2))) ?_
      refine own_s_iconst X54.here hx (1 : Int32) (hb hby at_201) rfl ?_
      show own_Go p e below T54 (mkF m 202 #[.val (.int a_), .val (.int b_), .val (.int c_), .val (.int d_), .val (.int e_), .val (.int n), .val (.ref b33), .val (.int off), .val (.int ln), .val (.int k1), .val (.int k2), .val (.ref b35), .val (.int (1 : Int32)), .unset] [(.int (1 : Int32))]) _
      refine own_s_goto X54.here hx 206 (hb hby at_202) (by decide) (by decide) ?_
      refine own_s_istore X54.here hx #[.val (.int a_), .val (.int b_), .val (.int c_), .val (.int d_), .val (.int e_), .val (.int n), .val (.ref b33), .val (.int off), .val (.int ln), .val (.int k1), .val (.int k2), .val (.ref b35), .val (.int (1 : Int32)), .val (.int (1 : Int32))] (hb hby at_206) rfl ?_
      refine own_s_iload X54.here hx (hb hby at_208) rfl ?_
      refine own_s_ifNo X54.here hx (hb hby at_210) (Jvm.Free.XT.i0_eq_f ((by decide))) ?_
      refine own_s_iload X54.here hx (hb hby at_213) rfl ?_
      refine own_s_ifNo X54.here hx (hb hby at_215) (Jvm.Free.XT.i0_eq_f ((by decide))) ?_
      refine own_s_aload X54.here hx (hb hby at_218) rfl rfl ?_
      obtain ⟨cq56, kq56, q56a, q56b, q56c⟩ := isOf hZ e54 f51
      obtain ⟨_, _, ⟨T56, L56, k56, n56⟩, -, X56, ⟨Lc56, hQ56, l56, y56, z56⟩, st56⟩ := X54.virtualBack hx (y := (⟨"com/example/fold_time/foldtime/model/ByteReader", "array", "()[B"⟩ : MethodName)) (z := (⟨"com/example/fold_time/foldtime/model/ByteReader", "array", "()[B"⟩ : MethodName)) hown (mvT hZ (hw _ (List.mem_of_getElem? (i := 49) rfl))) (mvT hZ (hw _ (List.mem_of_getElem? (i := 50) rfl))) (notFace_of_selects (args := #[]) (mvT hZ (hw _ (List.mem_of_getElem? (i := 52) rfl)))) (mvT hZ (hw _ (List.mem_of_getElem? (i := 52) rfl))) (mvT hZ (hw _ (List.mem_of_getElem? (i := 51) rfl))) (by decide) (backOf (W := 0) (own_r10 l Z a0 hw [] b35 b33 T49.heap n0 SZ49 fb49) hZ (hw _ (List.mem_of_getElem? (i := 53) rfl)) (hw _ (List.mem_of_getElem? (i := 4) rfl)) (by decide) (by decide)) q56a q56c (g := (mkF m 220 #[.val (.int a_), .val (.int b_), .val (.int c_), .val (.int d_), .val (.int e_), .val (.int n), .val (.ref b33), .val (.int off), .val (.int ln), .val (.int k1), .val (.int k2), .val (.ref b35), .val (.int (1 : Int32)), .val (.int (1 : Int32))] [(.ref b35)])) rfl (by rw [hml]; rfl) (Steps.refl _) (argsL := []) (rest := []) (lenOf own_pd_7 rfl) rfl (by show 2 * 0 + _ ≤ _; exact Nat.le_of_eq rfl) (hb hby at_220) (fun _ _ => ⟨rfl, e54, (by decide : 2 + 0 ≤ _), (by decide : 258 + 0 ≤ _)⟩)
      dsimp only [Pt.U, Pt.locs, Pt.cells, Pt.slots] at X56 l56 y56 z56 st56 hQ56
      subst l56 y56 z56
      obtain ⟨rfl, N56q, e56⟩ := hQ56
      have N56 := Fr.app N54 N56q
      refine own_by (fun t k => st56.trans k) ?_
      show own_Go p e below T56 (mkF m 223 #[.val (.int a_), .val (.int b_), .val (.int c_), .val (.int d_), .val (.int e_), .val (.int n), .val (.ref b33), .val (.int off), .val (.int ln), .val (.int k1), .val (.int k2), .val (.ref b35), .val (.int (1 : Int32)), .val (.int (1 : Int32))] [(.ref b33)]) _
      refine own_s_aload X56.here hx (hb hby at_223) rfl rfl ?_
      refine own_by (fun tq_ kq_ => Jvm.RoadKit.acmp (g := (mkF m 225 #[.val (.int a_), .val (.int b_), .val (.int c_), .val (.int d_), .val (.int e_), .val (.int n), .val (.ref b33), .val (.int off), .val (.int ln), .val (.int k1), .val (.int k2), .val (.ref b35), .val (.int (1 : Int32)), .val (.int (1 : Int32))] [(.ref b33), (.ref b33)])) X56 hx rfl rfl rfl (pc0 := 225) (pc' := 228) (same := true) rfl (hb hby at_225) rfl (decide_eq_true rfl) (by decide) (by decide) kq_) ?_
      show own_Go p e below T56 (mkF m 228 #[.val (.int a_), .val (.int b_), .val (.int c_), .val (.int d_), .val (.int e_), .val (.int n), .val (.ref b33), .val (.int off), .val (.int ln), .val (.int k1), .val (.int k2), .val (.ref b35), .val (.int (1 : Int32)), .val (.int (1 : Int32))] []) _
      refine own_s_iconst X56.here hx (1 : Int32) (hb hby at_228) rfl ?_
      show own_Go p e below T56 (mkF m 229 #[.val (.int a_), .val (.int b_), .val (.int c_), .val (.int d_), .val (.int e_), .val (.int n), .val (.ref b33), .val (.int off), .val (.int ln), .val (.int k1), .val (.int k2), .val (.ref b35), .val (.int (1 : Int32)), .val (.int (1 : Int32))] [(.int (1 : Int32))]) _
      refine own_s_goto X56.here hx 233 (hb hby at_229) (by decide) (by decide) ?_
      refine own_retZ X56 hx hret hlk (hb hby at_233) rfl (by decide) (by decide) ?_
      exact ⟨rfl, N56⟩
  ·
    show own_Go p e below T48 (mkF m 121 #[.val (.int a_), .val (.int b_), .val (.int c_), .val (.int d_), .val (.int e_), .val (.int n), .val (.ref b33), .val (.int off), .val (.int ln), .val (.int k1), .val (.int k2), .val (.ref b35), .unset, .unset] [(.int ln), (.int k1), (.int (own_hr (off + k1) (off + ln)))]) _
    refine own_s_icmpYes X48.here hx 128 (hb hby at_121) (Jvm.Free.XT.ii_ge_t hc121) (by decide) (by decide) ?_
    refine own_s_iconst X48.here hx (0 : Int32) (hb hby at_128) rfl ?_
    have hl1 : ¬ ((off + k1) < (off + ln)) := by
      rw [Int32.lt_iff_toInt_lt] at hc121
      rw [Int32.lt_iff_toInt_lt, eok, eol]
      omega
    refine own_s_icmpNo X48.here hx (hb hby at_129) (Jvm.Free.XT.ii_ne_f ((own_hr_f hl1))) ?_
    refine own_s_iconst X48.here hx (1 : Int32) (hb hby at_132) rfl ?_
    show own_Go p e below T48 (mkF m 133 #[.val (.int a_), .val (.int b_), .val (.int c_), .val (.int d_), .val (.int e_), .val (.int n), .val (.ref b33), .val (.int off), .val (.int ln), .val (.int k1), .val (.int k2), .val (.ref b35), .unset, .unset] [(.int (1 : Int32))]) _
    refine own_s_goto X48.here hx 137 (hb hby at_133) (by decide) (by decide) ?_
    refine own_s_istore X48.here hx #[.val (.int a_), .val (.int b_), .val (.int c_), .val (.int d_), .val (.int e_), .val (.int n), .val (.ref b33), .val (.int off), .val (.int ln), .val (.int k1), .val (.int k2), .val (.ref b35), .val (.int (1 : Int32)), .unset] (hb hby at_137) rfl ?_
    refine own_s_aload X48.here hx (hb hby at_139) rfl rfl ?_
    refine own_s_iload X48.here hx (hb hby at_141) rfl ?_
    obtain ⟨cq57, kq57, q57a, q57b, q57c⟩ := isOf hZ e48 f45
    obtain ⟨_, _, ⟨T57, L57, k57, n57⟩, -, X57, ⟨Lc57, hQ57, l57, y57, z57⟩, st57⟩ := X48.virtualBack hx (y := (⟨"com/example/fold_time/foldtime/model/ByteReader", "skip", "(I)V"⟩ : MethodName)) (z := (⟨"com/example/fold_time/foldtime/model/ByteReader", "skip", "(I)V"⟩ : MethodName)) hown (mvT hZ (hw _ (List.mem_of_getElem? (i := 25) rfl))) (mvT hZ (hw _ (List.mem_of_getElem? (i := 26) rfl))) (notFace_of_selects (args := #[]) (mvT hZ (hw _ (List.mem_of_getElem? (i := 28) rfl)))) (mvT hZ (hw _ (List.mem_of_getElem? (i := 28) rfl))) (mvT hZ (hw _ (List.mem_of_getElem? (i := 27) rfl))) (by decide) (backOf (W := 0) (own_r5 l Z a0 hw [] b35 k2 b33 (off + k1) (off + ln) T43.heap n0 SZ43 hrq2 f45 fb43 fp43 fe43 ge_b35) hZ (hw _ (List.mem_of_getElem? (i := 29) rfl)) (hw _ (List.mem_of_getElem? (i := 4) rfl)) (by decide) (by decide)) q57a q57c (g := (mkF m 143 #[.val (.int a_), .val (.int b_), .val (.int c_), .val (.int d_), .val (.int e_), .val (.int n), .val (.ref b33), .val (.int off), .val (.int ln), .val (.int k1), .val (.int k2), .val (.ref b35), .val (.int (1 : Int32)), .unset] [(.int k2), (.ref b35)])) rfl (by rw [hml]; rfl) (Steps.refl _) (argsL := [(.int k2)]) (rest := []) (lenOf own_pd_4 rfl) rfl (by show 2 * 0 + _ ≤ _; exact Nat.le_of_eq rfl) (hb hby at_143) (fun _ _ => ⟨rfl, e48, (by decide : 2 + 0 ≤ _), (by decide : 258 + 0 ≤ _)⟩)
    dsimp only [Pt.U, Pt.locs, Pt.cells, Pt.slots] at X57 l57 y57 z57 st57 hQ57
    subst l57 y57 z57
    obtain ⟨rfl, N57q, K57, fb57, fp57, fe57⟩ := hQ57
    have N57 := Fr.app N48 N57q
    have f58 := f44.keep K57 (ninS ne_b33_b35 nin0)
    have f59 := f45.keep K57
    have SZ57 : n0 ≤ T57.heap.size := Nat.le_trans SZ43 K57.1
    refine own_by (fun t k => st57.trans k) ?_
    show own_Go p e below T57 (mkF m 146 #[.val (.int a_), .val (.int b_), .val (.int c_), .val (.int d_), .val (.int e_), .val (.int n), .val (.ref b33), .val (.int off), .val (.int ln), .val (.int k1), .val (.int k2), .val (.ref b35), .val (.int (1 : Int32)), .unset] []) _
    refine own_s_aload X57.here hx (hb hby at_146) rfl rfl ?_
    obtain ⟨cq60, kq60, q60a, q60b, q60c⟩ := isOf hZ rfl f59
    obtain ⟨_, _, ⟨T60, L60, k60, n60⟩, -, X60, ⟨Lc60, hQ60, l60, y60, z60⟩, st60⟩ := X57.virtualBack hx (y := (⟨"com/example/fold_time/foldtime/model/ByteReader", "position", "()I"⟩ : MethodName)) (z := (⟨"com/example/fold_time/foldtime/model/ByteReader", "position", "()I"⟩ : MethodName)) hown (mvT hZ (hw _ (List.mem_of_getElem? (i := 34) rfl))) (mvT hZ (hw _ (List.mem_of_getElem? (i := 35) rfl))) (notFace_of_selects (args := #[]) (mvT hZ (hw _ (List.mem_of_getElem? (i := 37) rfl)))) (mvT hZ (hw _ (List.mem_of_getElem? (i := 37) rfl))) (mvT hZ (hw _ (List.mem_of_getElem? (i := 36) rfl))) (by decide) (backOf (W := 0) (own_r7 l Z a0 hw [] b35 ((off + k1) + k2) T57.heap n0 SZ57 fp57) hZ (hw _ (List.mem_of_getElem? (i := 38) rfl)) (hw _ (List.mem_of_getElem? (i := 4) rfl)) (by decide) (by decide)) q60a q60c (g := (mkF m 148 #[.val (.int a_), .val (.int b_), .val (.int c_), .val (.int d_), .val (.int e_), .val (.int n), .val (.ref b33), .val (.int off), .val (.int ln), .val (.int k1), .val (.int k2), .val (.ref b35), .val (.int (1 : Int32)), .unset] [(.ref b35)])) rfl (by rw [hml]; rfl) (Steps.refl _) (argsL := []) (rest := []) (lenOf own_pd_5 rfl) rfl (by show 2 * 0 + _ ≤ _; exact Nat.le_of_eq rfl) (hb hby at_148) (fun _ _ => ⟨rfl, rfl, (by decide : 2 + 0 ≤ _), (by decide : 258 + 0 ≤ _)⟩)
    dsimp only [Pt.U, Pt.locs, Pt.cells, Pt.slots] at X60 l60 y60 z60 st60 hQ60
    subst l60 y60 z60
    obtain ⟨rfl, N60q, e60⟩ := hQ60
    have N60 := Fr.app N57 N60q
    refine own_by (fun t k => st60.trans k) ?_
    show own_Go p e below T60 (mkF m 151 #[.val (.int a_), .val (.int b_), .val (.int c_), .val (.int d_), .val (.int e_), .val (.int n), .val (.ref b33), .val (.int off), .val (.int ln), .val (.int k1), .val (.int k2), .val (.ref b35), .val (.int (1 : Int32)), .unset] [(.int ((off + k1) + k2))]) _
    refine own_s_iload X60.here hx (hb hby at_151) rfl ?_
    refine own_s_iload X60.here hx (hb hby at_153) rfl ?_
    refine own_s_iadd X60.here hx (hb hby at_155) ?_
    refine own_s_iload X60.here hx (hb hby at_156) rfl ?_
    refine own_s_iadd X60.here hx (hb hby at_158) ?_
    refine own_s_icmpNo X60.here hx (hb hby at_159) (Jvm.Free.XT.ii_ne_f rfl) ?_
    refine own_s_aload X60.here hx (hb hby at_162) rfl rfl ?_
    obtain ⟨cq61, kq61, q61a, q61b, q61c⟩ := isOf hZ e60 f59
    obtain ⟨_, _, ⟨T61, L61, k61, n61⟩, -, X61, ⟨Lc61, hQ61, l61, y61, z61⟩, st61⟩ := X60.virtualBack hx (y := (⟨"com/example/fold_time/foldtime/model/ByteReader", "remaining", "()I"⟩ : MethodName)) (z := (⟨"com/example/fold_time/foldtime/model/ByteReader", "remaining", "()I"⟩ : MethodName)) hown (mvT hZ (hw _ (List.mem_of_getElem? (i := 39) rfl))) (mvT hZ (hw _ (List.mem_of_getElem? (i := 40) rfl))) (notFace_of_selects (args := #[]) (mvT hZ (hw _ (List.mem_of_getElem? (i := 42) rfl)))) (mvT hZ (hw _ (List.mem_of_getElem? (i := 42) rfl))) (mvT hZ (hw _ (List.mem_of_getElem? (i := 41) rfl))) (by decide) (backOf (W := 0) (own_r8 l Z a0 hw [] b35 ((off + k1) + k2) (off + ln) T57.heap n0 SZ57 fp57 fe57) hZ (hw _ (List.mem_of_getElem? (i := 43) rfl)) (hw _ (List.mem_of_getElem? (i := 4) rfl)) (by decide) (by decide)) q61a q61c (g := (mkF m 164 #[.val (.int a_), .val (.int b_), .val (.int c_), .val (.int d_), .val (.int e_), .val (.int n), .val (.ref b33), .val (.int off), .val (.int ln), .val (.int k1), .val (.int k2), .val (.ref b35), .val (.int (1 : Int32)), .unset] [(.ref b35)])) rfl (by rw [hml]; rfl) (Steps.refl _) (argsL := []) (rest := []) (lenOf own_pd_5 rfl) rfl (by show 2 * 0 + _ ≤ _; exact Nat.le_of_eq rfl) (hb hby at_164) (fun _ _ => ⟨rfl, e60, (by decide : 2 + 0 ≤ _), (by decide : 258 + 0 ≤ _)⟩)
    dsimp only [Pt.U, Pt.locs, Pt.cells, Pt.slots] at X61 l61 y61 z61 st61 hQ61
    subst l61 y61 z61
    obtain ⟨rfl, N61q, e61⟩ := hQ61
    have N61 := Fr.app N60 N61q
    refine own_by (fun t k => st61.trans k) ?_
    show own_Go p e below T61 (mkF m 167 #[.val (.int a_), .val (.int b_), .val (.int c_), .val (.int d_), .val (.int e_), .val (.int n), .val (.ref b33), .val (.int off), .val (.int ln), .val (.int k1), .val (.int k2), .val (.ref b35), .val (.int (1 : Int32)), .unset] [(.int ((off + ln) - ((off + k1) + k2)))]) _
    refine own_s_iload X61.here hx (hb hby at_167) rfl ?_
    refine own_s_iload X61.here hx (hb hby at_169) rfl ?_
    refine own_s_isub X61.here hx (hb hby at_171) ?_
    refine own_s_iload X61.here hx (hb hby at_172) rfl ?_
    refine own_s_isub X61.here hx (hb hby at_174) ?_
    refine own_s_icmpNo X61.here hx (hb hby at_175) (Jvm.Free.XT.ii_ne_f er2) ?_
    refine own_s_aload X61.here hx (hb hby at_178) rfl rfl ?_
    obtain ⟨cq62, kq62, q62a, q62b, q62c⟩ := isOf hZ e61 f59
    obtain ⟨_, _, ⟨T62, L62, k62, n62⟩, -, X62, ⟨Lc62, hQ62, l62, y62, z62⟩, st62⟩ := X61.virtualBack hx (y := (⟨"com/example/fold_time/foldtime/model/ByteReader", "hasRemaining", "()Z"⟩ : MethodName)) (z := (⟨"com/example/fold_time/foldtime/model/ByteReader", "hasRemaining", "()Z"⟩ : MethodName)) hown (mvT hZ (hw _ (List.mem_of_getElem? (i := 44) rfl))) (mvT hZ (hw _ (List.mem_of_getElem? (i := 45) rfl))) (notFace_of_selects (args := #[]) (mvT hZ (hw _ (List.mem_of_getElem? (i := 47) rfl)))) (mvT hZ (hw _ (List.mem_of_getElem? (i := 47) rfl))) (mvT hZ (hw _ (List.mem_of_getElem? (i := 46) rfl))) (by decide) (backOf (W := 0) (own_r9 l Z a0 hw [] b35 ((off + k1) + k2) (off + ln) T57.heap n0 SZ57 fp57 fe57) hZ (hw _ (List.mem_of_getElem? (i := 48) rfl)) (hw _ (List.mem_of_getElem? (i := 4) rfl)) (by decide) (by decide)) q62a q62c (g := (mkF m 180 #[.val (.int a_), .val (.int b_), .val (.int c_), .val (.int d_), .val (.int e_), .val (.int n), .val (.ref b33), .val (.int off), .val (.int ln), .val (.int k1), .val (.int k2), .val (.ref b35), .val (.int (1 : Int32)), .unset] [(.ref b35)])) rfl (by rw [hml]; rfl) (Steps.refl _) (argsL := []) (rest := []) (lenOf own_pd_6 rfl) rfl (by show 2 * 0 + _ ≤ _; exact Nat.le_of_eq rfl) (hb hby at_180) (fun _ _ => ⟨rfl, e61, (by decide : 2 + 0 ≤ _), (by decide : 258 + 0 ≤ _)⟩)
    dsimp only [Pt.U, Pt.locs, Pt.cells, Pt.slots] at X62 l62 y62 z62 st62 hQ62
    subst l62 y62 z62
    obtain ⟨rfl, N62q, e62⟩ := hQ62
    have N62 := Fr.app N61 N62q
    refine own_by (fun t k => st62.trans k) ?_
    show own_Go p e below T62 (mkF m 183 #[.val (.int a_), .val (.int b_), .val (.int c_), .val (.int d_), .val (.int e_), .val (.int n), .val (.ref b33), .val (.int off), .val (.int ln), .val (.int k1), .val (.int k2), .val (.ref b35), .val (.int (1 : Int32)), .unset] [(.int (own_hr ((off + k1) + k2) (off + ln)))]) _
    refine own_s_iload X62.here hx (hb hby at_183) rfl ?_
    refine own_s_iload X62.here hx (hb hby at_185) rfl ?_
    refine own_s_iadd X62.here hx (hb hby at_187) ?_
    refine own_s_iload X62.here hx (hb hby at_188) rfl ?_
    by_cases hc190 : (k1 + k2) < ln
    ·
      refine own_s_icmpNo X62.here hx (hb hby at_190) (Jvm.Free.XT.ii_ge_f hc190) ?_
      refine own_s_iconst X62.here hx (1 : Int32) (hb hby at_193) rfl ?_
      show own_Go p e below T62 (mkF m 194 #[.val (.int a_), .val (.int b_), .val (.int c_), .val (.int d_), .val (.int e_), .val (.int n), .val (.ref b33), .val (.int off), .val (.int ln), .val (.int k1), .val (.int k2), .val (.ref b35), .val (.int (1 : Int32)), .unset] [(.int (1 : Int32)), (.int (own_hr ((off + k1) + k2) (off + ln)))]) _
      refine own_s_goto X62.here hx 198 (hb hby at_194) (by decide) (by decide) ?_
      have hl2 : (((off + k1) + k2) < (off + ln)) := by
        rw [Int32.lt_iff_toInt_lt, own_pl bk1.1 (by omega) bk2.1 (by omega)] at hc190
        rw [Int32.lt_iff_toInt_lt, eokk, eok, eol]
        omega
      refine own_s_icmpNo X62.here hx (hb hby at_198) (Jvm.Free.XT.ii_ne_f ((own_hr_t hl2))) ?_
      refine own_s_iconst X62.here hx (1 : Int32) (hb hby at_201) rfl ?_
      show own_Go p e below T62 (mkF m 202 #[.val (.int a_), .val (.int b_), .val (.int c_), .val (.int d_), .val (.int e_), .val (.int n), .val (.ref b33), .val (.int off), .val (.int ln), .val (.int k1), .val (.int k2), .val (.ref b35), .val (.int (1 : Int32)), .unset] [(.int (1 : Int32))]) _
      refine own_s_goto X62.here hx 206 (hb hby at_202) (by decide) (by decide) ?_
      refine own_s_istore X62.here hx #[.val (.int a_), .val (.int b_), .val (.int c_), .val (.int d_), .val (.int e_), .val (.int n), .val (.ref b33), .val (.int off), .val (.int ln), .val (.int k1), .val (.int k2), .val (.ref b35), .val (.int (1 : Int32)), .val (.int (1 : Int32))] (hb hby at_206) rfl ?_
      refine own_s_iload X62.here hx (hb hby at_208) rfl ?_
      refine own_s_ifNo X62.here hx (hb hby at_210) (Jvm.Free.XT.i0_eq_f ((by decide))) ?_
      refine own_s_iload X62.here hx (hb hby at_213) rfl ?_
      refine own_s_ifNo X62.here hx (hb hby at_215) (Jvm.Free.XT.i0_eq_f ((by decide))) ?_
      refine own_s_aload X62.here hx (hb hby at_218) rfl rfl ?_
      obtain ⟨cq63, kq63, q63a, q63b, q63c⟩ := isOf hZ e62 f59
      obtain ⟨_, _, ⟨T63, L63, k63, n63⟩, -, X63, ⟨Lc63, hQ63, l63, y63, z63⟩, st63⟩ := X62.virtualBack hx (y := (⟨"com/example/fold_time/foldtime/model/ByteReader", "array", "()[B"⟩ : MethodName)) (z := (⟨"com/example/fold_time/foldtime/model/ByteReader", "array", "()[B"⟩ : MethodName)) hown (mvT hZ (hw _ (List.mem_of_getElem? (i := 49) rfl))) (mvT hZ (hw _ (List.mem_of_getElem? (i := 50) rfl))) (notFace_of_selects (args := #[]) (mvT hZ (hw _ (List.mem_of_getElem? (i := 52) rfl)))) (mvT hZ (hw _ (List.mem_of_getElem? (i := 52) rfl))) (mvT hZ (hw _ (List.mem_of_getElem? (i := 51) rfl))) (by decide) (backOf (W := 0) (own_r10 l Z a0 hw [] b35 b33 T57.heap n0 SZ57 fb57) hZ (hw _ (List.mem_of_getElem? (i := 53) rfl)) (hw _ (List.mem_of_getElem? (i := 4) rfl)) (by decide) (by decide)) q63a q63c (g := (mkF m 220 #[.val (.int a_), .val (.int b_), .val (.int c_), .val (.int d_), .val (.int e_), .val (.int n), .val (.ref b33), .val (.int off), .val (.int ln), .val (.int k1), .val (.int k2), .val (.ref b35), .val (.int (1 : Int32)), .val (.int (1 : Int32))] [(.ref b35)])) rfl (by rw [hml]; rfl) (Steps.refl _) (argsL := []) (rest := []) (lenOf own_pd_7 rfl) rfl (by show 2 * 0 + _ ≤ _; exact Nat.le_of_eq rfl) (hb hby at_220) (fun _ _ => ⟨rfl, e62, (by decide : 2 + 0 ≤ _), (by decide : 258 + 0 ≤ _)⟩)
      dsimp only [Pt.U, Pt.locs, Pt.cells, Pt.slots] at X63 l63 y63 z63 st63 hQ63
      subst l63 y63 z63
      obtain ⟨rfl, N63q, e63⟩ := hQ63
      have N63 := Fr.app N62 N63q
      refine own_by (fun t k => st63.trans k) ?_
      show own_Go p e below T63 (mkF m 223 #[.val (.int a_), .val (.int b_), .val (.int c_), .val (.int d_), .val (.int e_), .val (.int n), .val (.ref b33), .val (.int off), .val (.int ln), .val (.int k1), .val (.int k2), .val (.ref b35), .val (.int (1 : Int32)), .val (.int (1 : Int32))] [(.ref b33)]) _
      refine own_s_aload X63.here hx (hb hby at_223) rfl rfl ?_
      refine own_by (fun tq_ kq_ => Jvm.RoadKit.acmp (g := (mkF m 225 #[.val (.int a_), .val (.int b_), .val (.int c_), .val (.int d_), .val (.int e_), .val (.int n), .val (.ref b33), .val (.int off), .val (.int ln), .val (.int k1), .val (.int k2), .val (.ref b35), .val (.int (1 : Int32)), .val (.int (1 : Int32))] [(.ref b33), (.ref b33)])) X63 hx rfl rfl rfl (pc0 := 225) (pc' := 228) (same := true) rfl (hb hby at_225) rfl (decide_eq_true rfl) (by decide) (by decide) kq_) ?_
      show own_Go p e below T63 (mkF m 228 #[.val (.int a_), .val (.int b_), .val (.int c_), .val (.int d_), .val (.int e_), .val (.int n), .val (.ref b33), .val (.int off), .val (.int ln), .val (.int k1), .val (.int k2), .val (.ref b35), .val (.int (1 : Int32)), .val (.int (1 : Int32))] []) _
      refine own_s_iconst X63.here hx (1 : Int32) (hb hby at_228) rfl ?_
      show own_Go p e below T63 (mkF m 229 #[.val (.int a_), .val (.int b_), .val (.int c_), .val (.int d_), .val (.int e_), .val (.int n), .val (.ref b33), .val (.int off), .val (.int ln), .val (.int k1), .val (.int k2), .val (.ref b35), .val (.int (1 : Int32)), .val (.int (1 : Int32))] [(.int (1 : Int32))]) _
      refine own_s_goto X63.here hx 233 (hb hby at_229) (by decide) (by decide) ?_
      refine own_retZ X63 hx hret hlk (hb hby at_233) rfl (by decide) (by decide) ?_
      exact ⟨rfl, N63⟩
    ·
      show own_Go p e below T62 (mkF m 190 #[.val (.int a_), .val (.int b_), .val (.int c_), .val (.int d_), .val (.int e_), .val (.int n), .val (.ref b33), .val (.int off), .val (.int ln), .val (.int k1), .val (.int k2), .val (.ref b35), .val (.int (1 : Int32)), .unset] [(.int ln), (.int (k1 + k2)), (.int (own_hr ((off + k1) + k2) (off + ln)))]) _
      refine own_s_icmpYes X62.here hx 197 (hb hby at_190) (Jvm.Free.XT.ii_ge_t hc190) (by decide) (by decide) ?_
      refine own_s_iconst X62.here hx (0 : Int32) (hb hby at_197) rfl ?_
      have hl2 : ¬ (((off + k1) + k2) < (off + ln)) := by
        rw [Int32.lt_iff_toInt_lt, own_pl bk1.1 (by omega) bk2.1 (by omega)] at hc190
        rw [Int32.lt_iff_toInt_lt, eokk, eok, eol]
        omega
      refine own_s_icmpNo X62.here hx (hb hby at_198) (Jvm.Free.XT.ii_ne_f ((own_hr_f hl2))) ?_
      refine own_s_iconst X62.here hx (1 : Int32) (hb hby at_201) rfl ?_
      show own_Go p e below T62 (mkF m 202 #[.val (.int a_), .val (.int b_), .val (.int c_), .val (.int d_), .val (.int e_), .val (.int n), .val (.ref b33), .val (.int off), .val (.int ln), .val (.int k1), .val (.int k2), .val (.ref b35), .val (.int (1 : Int32)), .unset] [(.int (1 : Int32))]) _
      refine own_s_goto X62.here hx 206 (hb hby at_202) (by decide) (by decide) ?_
      refine own_s_istore X62.here hx #[.val (.int a_), .val (.int b_), .val (.int c_), .val (.int d_), .val (.int e_), .val (.int n), .val (.ref b33), .val (.int off), .val (.int ln), .val (.int k1), .val (.int k2), .val (.ref b35), .val (.int (1 : Int32)), .val (.int (1 : Int32))] (hb hby at_206) rfl ?_
      refine own_s_iload X62.here hx (hb hby at_208) rfl ?_
      refine own_s_ifNo X62.here hx (hb hby at_210) (Jvm.Free.XT.i0_eq_f ((by decide))) ?_
      refine own_s_iload X62.here hx (hb hby at_213) rfl ?_
      refine own_s_ifNo X62.here hx (hb hby at_215) (Jvm.Free.XT.i0_eq_f ((by decide))) ?_
      refine own_s_aload X62.here hx (hb hby at_218) rfl rfl ?_
      obtain ⟨cq64, kq64, q64a, q64b, q64c⟩ := isOf hZ e62 f59
      obtain ⟨_, _, ⟨T64, L64, k64, n64⟩, -, X64, ⟨Lc64, hQ64, l64, y64, z64⟩, st64⟩ := X62.virtualBack hx (y := (⟨"com/example/fold_time/foldtime/model/ByteReader", "array", "()[B"⟩ : MethodName)) (z := (⟨"com/example/fold_time/foldtime/model/ByteReader", "array", "()[B"⟩ : MethodName)) hown (mvT hZ (hw _ (List.mem_of_getElem? (i := 49) rfl))) (mvT hZ (hw _ (List.mem_of_getElem? (i := 50) rfl))) (notFace_of_selects (args := #[]) (mvT hZ (hw _ (List.mem_of_getElem? (i := 52) rfl)))) (mvT hZ (hw _ (List.mem_of_getElem? (i := 52) rfl))) (mvT hZ (hw _ (List.mem_of_getElem? (i := 51) rfl))) (by decide) (backOf (W := 0) (own_r10 l Z a0 hw [] b35 b33 T57.heap n0 SZ57 fb57) hZ (hw _ (List.mem_of_getElem? (i := 53) rfl)) (hw _ (List.mem_of_getElem? (i := 4) rfl)) (by decide) (by decide)) q64a q64c (g := (mkF m 220 #[.val (.int a_), .val (.int b_), .val (.int c_), .val (.int d_), .val (.int e_), .val (.int n), .val (.ref b33), .val (.int off), .val (.int ln), .val (.int k1), .val (.int k2), .val (.ref b35), .val (.int (1 : Int32)), .val (.int (1 : Int32))] [(.ref b35)])) rfl (by rw [hml]; rfl) (Steps.refl _) (argsL := []) (rest := []) (lenOf own_pd_7 rfl) rfl (by show 2 * 0 + _ ≤ _; exact Nat.le_of_eq rfl) (hb hby at_220) (fun _ _ => ⟨rfl, e62, (by decide : 2 + 0 ≤ _), (by decide : 258 + 0 ≤ _)⟩)
      dsimp only [Pt.U, Pt.locs, Pt.cells, Pt.slots] at X64 l64 y64 z64 st64 hQ64
      subst l64 y64 z64
      obtain ⟨rfl, N64q, e64⟩ := hQ64
      have N64 := Fr.app N62 N64q
      refine own_by (fun t k => st64.trans k) ?_
      show own_Go p e below T64 (mkF m 223 #[.val (.int a_), .val (.int b_), .val (.int c_), .val (.int d_), .val (.int e_), .val (.int n), .val (.ref b33), .val (.int off), .val (.int ln), .val (.int k1), .val (.int k2), .val (.ref b35), .val (.int (1 : Int32)), .val (.int (1 : Int32))] [(.ref b33)]) _
      refine own_s_aload X64.here hx (hb hby at_223) rfl rfl ?_
      refine own_by (fun tq_ kq_ => Jvm.RoadKit.acmp (g := (mkF m 225 #[.val (.int a_), .val (.int b_), .val (.int c_), .val (.int d_), .val (.int e_), .val (.int n), .val (.ref b33), .val (.int off), .val (.int ln), .val (.int k1), .val (.int k2), .val (.ref b35), .val (.int (1 : Int32)), .val (.int (1 : Int32))] [(.ref b33), (.ref b33)])) X64 hx rfl rfl rfl (pc0 := 225) (pc' := 228) (same := true) rfl (hb hby at_225) rfl (decide_eq_true rfl) (by decide) (by decide) kq_) ?_
      show own_Go p e below T64 (mkF m 228 #[.val (.int a_), .val (.int b_), .val (.int c_), .val (.int d_), .val (.int e_), .val (.int n), .val (.ref b33), .val (.int off), .val (.int ln), .val (.int k1), .val (.int k2), .val (.ref b35), .val (.int (1 : Int32)), .val (.int (1 : Int32))] []) _
      refine own_s_iconst X64.here hx (1 : Int32) (hb hby at_228) rfl ?_
      show own_Go p e below T64 (mkF m 229 #[.val (.int a_), .val (.int b_), .val (.int c_), .val (.int d_), .val (.int e_), .val (.int n), .val (.ref b33), .val (.int off), .val (.int ln), .val (.int k1), .val (.int k2), .val (.ref b35), .val (.int (1 : Int32)), .val (.int (1 : Int32))] [(.int (1 : Int32))]) _
      refine own_s_goto X64.here hx 233 (hb hby at_229) (by decide) (by decide) ?_
      refine own_retZ X64 hx hret hlk (hb hby at_233) rfl (by decide) (by decide) ?_
      exact ⟨rfl, N64⟩
set_option maxRecDepth 65536 in
set_option maxHeartbeats 40000000 in
theorem own_comes {Post : Tables → Env → Array Value → State → Outcome → State → Prop} (hpost : ∀ tb e args s v u, (limb_1_1.after args s (.returned v) u = true ∧ limb_1_2.after args s (.returned v) u = true ∧ True) → FrameEnd s (.returned v) u (Jvm.fieldLocs frame_1_writes args s ++ Jvm.arrayLocs frame_1_arrays args s ++ Jvm.staticLocs frame_1_statics s) 16 640 → Post tb e args s (.returned v) u) :
    ArmFor flags0 classFile x code maxLocals ret World_1 tables_1 room_1 Calls_1 rest_1 Pre_1 Post := by
  intro l hfl _ _ p e ha hc hk s m args below hf hA hF happ hP
  obtain ⟨hcalls, hrest, hpre⟩ := hP
  obtain ⟨-, -, -, hnamed, -, -, -, hat⟩ := (Spec.applies_iff hf).mp happ
  obtain ⟨hg, hn⟩ := and_e (Cond.before_iff.mp (show (Jvm.Cond.and given_1 narrow_1).before args s = true from hpre))
  obtain ⟨g1, g2⟩ := and_e hg
  obtain ⟨g3, g4⟩ := and_e g2
  obtain ⟨g5, g6⟩ := and_e g4
  obtain ⟨g7, g8⟩ := and_e g6
  obtain ⟨g9, g10⟩ := and_e g8
  obtain ⟨w0, w1, w2, w3, w4, rfl⟩ : ∃ w0 w1 w2 w3 w4 : Value, args = #[w0, w1, w2, w3, w4] := by
    have hs : args.size = 5 := by simpa [Cond.value, given_1] using g1
    obtain ⟨L⟩ := args
    match L, hs with
    | [w0, w1, w2, w3, w4], _ => exact ⟨w0, w1, w2, w3, w4, rfl⟩
  have hw := fun d (hd : d ∈ tables_1) => atoms_spec (ws := Jvm.Cond.code x code maxLocals ret :: tables_1) hat d (List.mem_cons_of_mem _ hd)
  obtain ⟨i0, ei0⟩ := is_v g3
  obtain rfl : w0 = (.int i0) := Option.some.inj ei0
  obtain ⟨i1, ei1⟩ := is_v g5
  obtain rfl : w1 = (.int i1) := Option.some.inj ei1
  obtain ⟨i2, ei2⟩ := is_v g7
  obtain rfl : w2 = (.int i2) := Option.some.inj ei2
  obtain ⟨i3, ei3⟩ := is_v g9
  obtain rfl : w3 = (.int i3) := Option.some.inj ei3
  obtain ⟨i4, ei4⟩ := is_v g10
  obtain rfl : w4 = (.int i4) := Option.some.inj ei4
  obtain ⟨n, o, h1, h2, h3, _, L, rfl, ⟨rfl, N⟩, hq⟩ := own_r0 l s _ hw tables_1 i0 i1 i2 i3 i4 s.heap s.heap.size (Nat.le_refl _) p e ha hc hk s m _ below hf ((Spec.applies_iff_loose hf).mp happ).1 ⟨rfl, State.Warmed39.refl s, rfl⟩ trivial
  refine ⟨n, _, h1, h2, h3, hpost _ _ _ _ _ _ ⟨Cond.after_iff.mpr rfl, Cond.after_iff.mpr (eq_i res_at (Term.int_eval (1)) rfl), trivial⟩ ⟨hq.1, hq.2.1, (hq.2.2.sift fun y hy => Or.inr (N y hy)).mono (by decide) (by decide)⟩⟩
theorem main_1_1 : Claimed_1_1 := own_comes fun _ _ _ _ _ _ h hF => ⟨h.1, hF⟩
theorem main_1_2 : Claimed_1_2 := own_comes fun _ _ _ _ _ _ h hF => ⟨h.2.1, hF⟩
end Jvm.Pilot.@@N@@
namespace Jvm.Pilot.@@N@@
open Jvm Jvm.ClassFile Sem Op Lib Jvm.Free Jvm.Stand Jvm.Pilot.@@N@@.Jvm.D
/-! MADE BY PROGRAM (witnessworld.py) out of the Statement's table words and the real class files: 11 classes; the members and pool entries that the words name. The judged class is class 1, her method 1. -/
namespace start1
open Jvm.ClassFile
def u (s : String) : CpInfo := .utf8 (stringToUtf16 s)
/-- a pool by its gaps: so many unusable entries, then the entry; so many at the end -/
def gap : Nat → List CpInfo → List CpInfo
  | 0, r => r
  | n + 1, r => .unusable :: gap n r
def poolList (es : List (Nat × CpInfo)) (last : Nat) : List CpInfo := es.foldr (fun e r => gap e.1 (e.2 :: r)) (gap last [])
def pool (es : List (Nat × CpInfo)) (last : Nat) : Array CpInfo := ⟨poolList es last⟩
def fileOf (pool : Array CpInfo) (this : Nat) (attrs : Array Attribute := #[]) (ms : Array MethodInfo := #[]) (fl : Nat := 33) (sup : Nat := 0) (ifs : Array Nat := #[]) (fds : Array FieldInfo := #[]) : ClassFile where
  minorVersion := 0
  majorVersion := 65
  constantPool := pool
  accessFlags := fl
  thisClass := this
  superClass := sup
  interfaces := ifs
  fields := fds
  methods := ms
  attributes := attrs
def plain (name : String) (sup : Option ClassId) : Class where
  name := name
  kind := .ordinary
  loader := none
  accessFlags := 33
  super := sup
  interfaces := #[]
  cf := none
  fields := #[]
  methods := #[]
  instanceTypes := #[]
  staticTypes := #[]
  resolved := #[]
  callSites := []
  init := .initialized
  statics := none
  mirror := none

def pool0 : Array CpInfo := pool [(5, u "<init>"), (0, u "()V"), (1, .class_ 10), (1, u "java/lang/Object")] 113

def k0c0 : Code := { maxStack := 0, maxLocals := 1, code := object_method_1_code, exceptionTable := #[], attributes := #[] }
def k0m0 : Method := { name := "<init>", desc := "()V", sig := { parameters := [], returnType := none }, accessFlags := 1, code := some k0c0 }
/-- java/lang/Object -/
def k0 : Class := { plain "java/lang/Object" none with
  accessFlags := 33
  interfaces := #[]
  cf := some (fileOf pool0 8 #[] #[{ accessFlags := 1, nameIndex := 5, descriptorIndex := 6, attributes := #[] }] 33 0 #[] #[])
  fields := #[]
  methods := #[k0m0]
  instanceTypes := #[]
  staticTypes := #[]
  resolved := Array.replicate 124 none
  statics := none }

def pool1 : Array CpInfo := pool [(2, .class_ 4), (1, u "java/lang/Object"), (0, u "<init>"), (0, u "()V"), (0, .integer 2147483647), (0, .class_ 9), (0, u "com/example/fold_time/foldtime/model/ByteReader"), (0, .methodref 8 11), (0, .nameAndType 5 12), (0, u "([BII)V"), (0, .methodref 8 14), (0, .nameAndType 15 16), (0, u "skip"), (0, u "(I)V"), (0, .methodref 8 18), (0, .nameAndType 19 20), (0, u "position"), (0, u "()I"), (0, .methodref 8 22), (0, .nameAndType 23 20), (0, u "remaining"), (0, .methodref 8 25), (0, .nameAndType 26 27), (0, u "hasRemaining"), (0, u "()Z"), (0, .methodref 8 29), (0, .nameAndType 30 31), (0, u "array"), (0, u "()[B"), (0, .class_ 33), (0, u "com/example/fold_time/foldtime/model/ByteReaderSkipPinLaw"), (2, u "law"), (0, u "(IIIII)Z")] 5

def k1m0 : Method := { name := "<init>", desc := "()V", sig := { parameters := [], returnType := none }, accessFlags := 1, code := none }
def k1c1 : Code := { maxStack := 5, maxLocals := 14, code := code, exceptionTable := #[], attributes := #[] }
def k1m1 : Method := { name := "law", desc := "(IIIII)Z", sig := { parameters := [.int, .int, .int, .int, .int], returnType := some .boolean }, accessFlags := 9, code := some k1c1 }
/-- com/example/fold_time/foldtime/model/ByteReaderSkipPinLaw -/
def k1 : Class := { plain "com/example/fold_time/foldtime/model/ByteReaderSkipPinLaw" (some 0) with
  accessFlags := 49
  interfaces := #[]
  cf := some (fileOf pool1 32 #[] #[{ accessFlags := 1, nameIndex := 5, descriptorIndex := 6, attributes := #[] }, { accessFlags := 9, nameIndex := 36, descriptorIndex := 37, attributes := #[] }] 49 2 #[] #[])
  fields := #[]
  methods := #[k1m0, k1m1]
  instanceTypes := #[]
  staticTypes := #[]
  resolved := Array.replicate 43 none
  statics := none }

def pool2 : Array CpInfo := pool [(1, .methodref 2 3), (0, .class_ 4), (0, .nameAndType 5 6), (0, u "java/lang/Object"), (0, u "<init>"), (0, u "()V"), (0, .methodref 8 9), (0, .class_ 10), (0, .nameAndType 11 12), (0, u "java/util/Objects"), (0, u "checkFromIndexSize"), (0, u "(III)I"), (0, .fieldref 14 15), (0, .class_ 16), (0, .nameAndType 17 18), (0, u "com/example/fold_time/foldtime/model/ByteReader"), (0, u "bytes"), (0, u "[B"), (0, .fieldref 14 20), (0, .nameAndType 21 22), (0, u "position"), (0, u "I"), (0, .fieldref 14 24), (0, .nameAndType 25 22), (0, u "end"), (0, .methodref 14 27), (0, .nameAndType 28 29), (0, u "require"), (0, u "(I)V"), (13, u "INT32"), (0, u "Ljava/lang/invoke/VarHandle;"), (10, u "INT64"), (6, u "()I"), (25, u "([BII)V"), (7, u "skip"), (0, u "array"), (0, u "()[B"), (0, u "hasRemaining"), (0, u "()Z"), (0, u "remaining")] 3

def k2c0 : Code := { maxStack := 3, maxLocals := 4, code := prog_4_method_1_code, exceptionTable := #[], attributes := #[] }
def k2m0 : Method := { name := "<init>", desc := "([BII)V", sig := { parameters := [(.array .byte), .int, .int], returnType := none }, accessFlags := 1, code := some k2c0 }
def k2c1 : Code := { maxStack := 3, maxLocals := 2, code := prog_4_method_6_code, exceptionTable := #[], attributes := #[] }
def k2m1 : Method := { name := "skip", desc := "(I)V", sig := { parameters := [.int], returnType := none }, accessFlags := 0, code := some k2c1 }
def k2c2 : Code := { maxStack := 1, maxLocals := 1, code := prog_4_method_7_code, exceptionTable := #[], attributes := #[] }
def k2m2 : Method := { name := "array", desc := "()[B", sig := { parameters := [], returnType := some (.array .byte) }, accessFlags := 0, code := some k2c2 }
def k2c3 : Code := { maxStack := 1, maxLocals := 1, code := prog_4_method_8_code, exceptionTable := #[], attributes := #[] }
def k2m3 : Method := { name := "position", desc := "()I", sig := { parameters := [], returnType := some .int }, accessFlags := 1, code := some k2c3 }
def k2c4 : Code := { maxStack := 2, maxLocals := 1, code := prog_4_method_9_code, exceptionTable := #[], attributes := #[] }
def k2m4 : Method := { name := "hasRemaining", desc := "()Z", sig := { parameters := [], returnType := some .boolean }, accessFlags := 1, code := some k2c4 }
def k2c5 : Code := { maxStack := 2, maxLocals := 1, code := prog_4_method_10_code, exceptionTable := #[], attributes := #[] }
def k2m5 : Method := { name := "remaining", desc := "()I", sig := { parameters := [], returnType := some .int }, accessFlags := 1, code := some k2c5 }
def k2c6 : Code := { maxStack := 3, maxLocals := 2, code := prog_4_method_11_code, exceptionTable := #[], attributes := #[] }
def k2m6 : Method := { name := "require", desc := "(I)V", sig := { parameters := [.int], returnType := none }, accessFlags := 2, code := some k2c6 }
/-- com/example/fold_time/foldtime/model/ByteReader -/
def k2 : Class := { plain "com/example/fold_time/foldtime/model/ByteReader" (some 0) with
  accessFlags := 49
  interfaces := #[]
  cf := some (fileOf pool2 14 #[] #[{ accessFlags := 1, nameIndex := 5, descriptorIndex := 88, attributes := #[] }, { accessFlags := 0, nameIndex := 96, descriptorIndex := 29, attributes := #[] }, { accessFlags := 0, nameIndex := 97, descriptorIndex := 98, attributes := #[] }, { accessFlags := 1, nameIndex := 21, descriptorIndex := 62, attributes := #[] }, { accessFlags := 1, nameIndex := 99, descriptorIndex := 100, attributes := #[] }, { accessFlags := 1, nameIndex := 101, descriptorIndex := 62, attributes := #[] }, { accessFlags := 2, nameIndex := 28, descriptorIndex := 29, attributes := #[] }] 49 2 #[] #[{ accessFlags := 26, nameIndex := 43, descriptorIndex := 44, attributes := #[] }, { accessFlags := 26, nameIndex := 55, descriptorIndex := 44, attributes := #[] }, { accessFlags := 18, nameIndex := 17, descriptorIndex := 18, attributes := #[] }, { accessFlags := 18, nameIndex := 25, descriptorIndex := 22, attributes := #[] }, { accessFlags := 2, nameIndex := 21, descriptorIndex := 22, attributes := #[] }])
  fields := #[{ name := "INT32", type := (.object "java/lang/invoke/VarHandle"), accessFlags := 26, slot := 0, constantValue := 0 }, { name := "INT64", type := (.object "java/lang/invoke/VarHandle"), accessFlags := 26, slot := 1, constantValue := 0 }, { name := "bytes", type := (.array .byte), accessFlags := 18, slot := 0, constantValue := 0 }, { name := "end", type := .int, accessFlags := 18, slot := 1, constantValue := 0 }, { name := "position", type := .int, accessFlags := 2, slot := 2, constantValue := 0 }]
  methods := #[k2m0, k2m1, k2m2, k2m3, k2m4, k2m5, k2m6]
  instanceTypes := #[(.array .byte), .int, .int]
  staticTypes := #[(.object "java/lang/invoke/VarHandle"), (.object "java/lang/invoke/VarHandle")]
  resolved := Array.replicate 105 none
  statics := none }

def pool3 : Array CpInfo := pool [(2, .class_ 4), (1, u "java/lang/Object"), (0, u "<init>"), (0, u "()V"), (35, .class_ 44), (1, u "java/util/Objects"), (61, .class_ 108), (1, u "jdk/internal/util/Preconditions"), (5, u "(IIILjava/util/function/BiFunction;)I"), (0, .methodref 106 116), (0, .nameAndType 117 114), (0, u "checkFromIndexSize"), (57, u "(III)I")] 8

def k3m0 : Method := { name := "<init>", desc := "()V", sig := { parameters := [], returnType := none }, accessFlags := 2, code := none }
def k3c1 : Code := { maxStack := 4, maxLocals := 3, code := jdk_31_method_19_code, exceptionTable := #[], attributes := #[] }
def k3m1 : Method := { name := "checkFromIndexSize", desc := "(III)I", sig := { parameters := [.int, .int, .int], returnType := some .int }, accessFlags := 9, code := some k3c1 }
/-- java/util/Objects -/
def k3 : Class := { plain "java/util/Objects" (some 0) with
  accessFlags := 49
  interfaces := #[]
  cf := some (fileOf pool3 42 #[] #[{ accessFlags := 2, nameIndex := 5, descriptorIndex := 6, attributes := #[] }, { accessFlags := 9, nameIndex := 117, descriptorIndex := 175, attributes := #[] }] 49 2 #[] #[])
  fields := #[]
  methods := #[k3m0, k3m1]
  instanceTypes := #[]
  staticTypes := #[]
  resolved := Array.replicate 184 none
  statics := none }

def pool4 : Array CpInfo := pool [(2, .class_ 4), (1, u "java/lang/Object"), (0, u "<init>"), (0, u "()V"), (17, .class_ 26), (1, u "jdk/internal/util/Preconditions"), (22, u "checkFromIndexSize"), (5, .class_ 56), (0, u "jdk/internal/util/Preconditions$4"), (57, .class_ 115), (0, u "jdk/internal/util/Preconditions$1"), (7, u "SIOOBE_FORMATTER"), (0, u "Ljava/util/function/BiFunction;"), (0, .class_ 126), (0, u "jdk/internal/util/Preconditions$2"), (3, u "AIOOBE_FORMATTER"), (0, .class_ 132), (0, u "jdk/internal/util/Preconditions$3"), (3, u "IOOBE_FORMATTER"), (46, u "(IIILjava/util/function/BiFunction;)I")] 10

def k4m0 : Method := { name := "<init>", desc := "()V", sig := { parameters := [], returnType := none }, accessFlags := 1, code := none }
def k4c1 : Code := { maxStack := 4, maxLocals := 4, code := jdk_41_method_13_code, exceptionTable := #[], attributes := #[] }
def k4m1 : Method := { name := "checkFromIndexSize", desc := "(IIILjava/util/function/BiFunction;)I", sig := { parameters := [.int, .int, .int, (.object "java/util/function/BiFunction")], returnType := some .int }, accessFlags := 9, code := some k4c1 }
/-- jdk/internal/util/Preconditions -/
def k4 : Class := { plain "jdk/internal/util/Preconditions" (some 0) with
  accessFlags := 33
  interfaces := #[]
  cf := some (fileOf pool4 24 #[.nestMembers #[55, 131, 125, 114]] #[{ accessFlags := 1, nameIndex := 5, descriptorIndex := 6, attributes := #[] }, { accessFlags := 9, nameIndex := 49, descriptorIndex := 183, attributes := #[] }] 33 2 #[] #[{ accessFlags := 25, nameIndex := 123, descriptorIndex := 124, attributes := #[] }, { accessFlags := 25, nameIndex := 130, descriptorIndex := 124, attributes := #[] }, { accessFlags := 25, nameIndex := 136, descriptorIndex := 124, attributes := #[] }])
  fields := #[{ name := "SIOOBE_FORMATTER", type := (.object "java/util/function/BiFunction"), accessFlags := 25, slot := 0, constantValue := 0 }, { name := "AIOOBE_FORMATTER", type := (.object "java/util/function/BiFunction"), accessFlags := 25, slot := 1, constantValue := 0 }, { name := "IOOBE_FORMATTER", type := (.object "java/util/function/BiFunction"), accessFlags := 25, slot := 2, constantValue := 0 }]
  methods := #[k4m0, k4m1]
  instanceTypes := #[]
  staticTypes := #[(.object "java/util/function/BiFunction"), (.object "java/util/function/BiFunction"), (.object "java/util/function/BiFunction")]
  resolved := Array.replicate 194 none
  statics := none }

def pool5 : Array CpInfo := pool [(1, u "java/lang/Cloneable"), (0, .class_ 1), (0, u "java/lang/Object"), (0, .class_ 3)] 3

/-- java/lang/Cloneable -/
def k5 : Class := { plain "java/lang/Cloneable" (some 0) with
  accessFlags := 1537
  interfaces := #[]
  cf := some (fileOf pool5 2 #[] #[] 1537 4 #[] #[])
  fields := #[]
  methods := #[]
  instanceTypes := #[]
  staticTypes := #[]
  resolved := Array.replicate 8 none
  statics := none }

def pool6 : Array CpInfo := pool [(1, u "java/io/Serializable"), (0, .class_ 1), (0, u "java/lang/Object"), (0, .class_ 3)] 3

/-- java/io/Serializable -/
def k6 : Class := { plain "java/io/Serializable" (some 0) with
  accessFlags := 1537
  interfaces := #[]
  cf := some (fileOf pool6 2 #[] #[] 1537 4 #[] #[])
  fields := #[]
  methods := #[]
  instanceTypes := #[]
  staticTypes := #[]
  resolved := Array.replicate 8 none
  statics := none }

/-- the primitive byte -/
def k7 : Class := { plain "byte" none with kind := .primitive 'B', accessFlags := 0x411 }
/-- [B -/
def k8 : Class := { plain "[B" (some 0) with kind := .array 7 .byte, interfaces := #[5, 6], accessFlags := 1041 }

/-- the primitive int -/
def k9 : Class := { plain "int" none with kind := .primitive 'I', accessFlags := 0x411 }
/-- [I -/
def k10 : Class := { plain "[I" (some 0) with kind := .array 9 .int, interfaces := #[5, 6], accessFlags := 1041 }

def heap : Heap := #[]
def classes : Array Class := #[k0, k1, k2, k3, k4, k5, k6, k7, k8, k9, k10]
def interned : List (Array UInt16 × Addr) := []
def slotsUsed : Nat := 0
def theMethod : MethodId := ⟨1, 1⟩
def args0 : Array Value := #[.int 5, .int 5, .int 5, .int 5, .int 5]
def aboutOver (below : List Frame) : State where
  vm := { classes := classes, interned := interned.toArray }
  heap := heap
  slotsUsed := slotsUsed
  threads := #[{ frames := .invoking theMethod args0 :: below }]
def below0 : List Frame := [.native { method := ⟨0, 0⟩, args := #[] }]
def about1 : State := aboutOver below0
def p0 : Program := .bare "" "" ""
def e0 : Env := launch0.env 0 0 0
theorem w_frames : about1.frames = Frame.invoking theMethod args0 :: below0 := rfl
set_option maxRecDepth 65536 in
theorem w_args : argsFit about1.vm theMethod args0 = true := by decide +kernel
set_option maxRecDepth 65536 in
theorem w_heap : heapFits about1 = true := by decide +kernel
set_option maxRecDepth 65536 in
theorem w_runnable : about1.curStatus? = some .runnable := by decide +kernel
set_option maxRecDepth 65536 in
theorem w_alone : about1.alone = true := by decide +kernel
set_option maxRecDepth 65536 in
theorem w_named : about1.methodNamed? x = some theMethod := by decide +kernel
set_option maxRecDepth 65536 in
theorem w_hears : about1.hears theMethod below0 = true := by decide +kernel
set_option maxRecDepth 65536 in
theorem w_ripe : about1.ripe theMethod args0 below0 = true := by decide +kernel
theorem w_running : about1.status = .running := rfl
set_option maxRecDepth 65536 in
theorem w_room : about1.hasRoom e0.platform room_1 = true :=
  launch0.hasRoom_least _ room_1 (by decide +kernel) (by decide +kernel) (by decide +kernel) (by decide +kernel) (by decide +kernel) (by decide +kernel)
theorem allAtoms_all (ts : List Jvm.Cond) (a : Array Jvm.Value) (st : Jvm.State) : (allAtoms ts).before a st = ts.all (fun c => c.before a st) := by
  induction ts with
  | nil => rfl
  | cons c t ih =>
    show (Jvm.Cond.and c (allAtoms t)).before a st = _
    rw [Jvm.Cond.before_and, ih, List.all_cons]
def words1 : List Jvm.Cond := Jvm.Cond.code x code maxLocals ret :: tables_1
/-- a 'code' word, met by the world's own term for the bytes: nothing is compared byte by byte -/
theorem code_word {y : MethodName} {bytes : ByteArray} {mx : Nat} {rt : Option FieldType} {a : Array Value} {s : State} {m : MethodId} {meth : Method} {c : Code} (h1 : s.methodNamed? y = some m) (h2 : s.vm.method? m = some meth) (h3 : meth.code = some c) (h4 : c.code = bytes)
    (h5 : (c.maxLocals == mx && c.exceptionTable.isEmpty && decide (c.maxStack ≤ mostOperands) && decide (meth.sig.returnType = rt) && !meth.locks && decide (parseMethodDescriptor y.desc = some meth.sig)) = true) : (Jvm.Cond.code y bytes mx rt).before a s = true := by
  simp only [Bool.and_eq_true, beq_iff_eq, Bool.not_eq_true', decide_eq_true_eq] at h5
  obtain ⟨⟨⟨⟨⟨g1, g2⟩, g3⟩, g4⟩, g5⟩, g6⟩ := h5
  simp [Cond.before, Cond.holds, Cond.value, h1, h2, h3, h4, g1, g2, g3, g4, g5, g6]
def isCode : Jvm.Cond → Bool
  | .code _ _ _ _ => true
  | _ => false
theorem all_split {L : List Jvm.Cond} {P : Jvm.Cond → Bool} (h1 : L.all (fun c => isCode c || P c) = true) (h2 : ∀ c ∈ L.filter isCode, P c = true) : L.all P = true := by
  refine List.all_eq_true.mpr fun c hc => ?_
  have h := List.all_eq_true.mp h1 c hc
  rcases Bool.eq_false_or_eq_true (isCode c) with hi | hi
  · exact h2 c (List.mem_filter.mpr ⟨hc, hi⟩)
  · simpa [hi] using h
set_option maxRecDepth 65536 in
theorem w_c0 : (Jvm.Cond.code x code maxLocals ret).before args0 about1 = true := code_word (m := ⟨1, 1⟩) (meth := k1m1) (c := k1c1) (by decide +kernel) rfl rfl rfl (by decide +kernel)
set_option maxRecDepth 65536 in
theorem w_c1 : (Jvm.Cond.code ({ cls := "com/example/fold_time/foldtime/model/ByteReader", name := "<init>", desc := "([BII)V" } : Jvm.MethodName) prog_4_method_1_code (4 : Nat) (Option.none : Option Jvm.ClassFile.FieldType)).before args0 about1 = true := code_word (m := ⟨2, 0⟩) (meth := k2m0) (c := k2c0) (by decide +kernel) rfl rfl rfl (by decide +kernel)
set_option maxRecDepth 65536 in
theorem w_c2 : (Jvm.Cond.code ({ cls := "java/lang/Object", name := "<init>", desc := "()V" } : Jvm.MethodName) object_method_1_code (1 : Nat) (Option.none : Option Jvm.ClassFile.FieldType)).before args0 about1 = true := code_word (m := ⟨0, 0⟩) (meth := k0m0) (c := k0c0) (by decide +kernel) rfl rfl rfl (by decide +kernel)
set_option maxRecDepth 65536 in
theorem w_c3 : (Jvm.Cond.code ({ cls := "java/util/Objects", name := "checkFromIndexSize", desc := "(III)I" } : Jvm.MethodName) jdk_31_method_19_code (3 : Nat) (Option.some Jvm.ClassFile.FieldType.int)).before args0 about1 = true := code_word (m := ⟨3, 1⟩) (meth := k3m1) (c := k3c1) (by decide +kernel) rfl rfl rfl (by decide +kernel)
set_option maxRecDepth 65536 in
theorem w_c4 : (Jvm.Cond.code ({ cls := "jdk/internal/util/Preconditions", name := "checkFromIndexSize", desc := "(IIILjava/util/function/BiFunction;)I" } : Jvm.MethodName) jdk_41_method_13_code (4 : Nat) (Option.some Jvm.ClassFile.FieldType.int)).before args0 about1 = true := code_word (m := ⟨4, 1⟩) (meth := k4m1) (c := k4c1) (by decide +kernel) rfl rfl rfl (by decide +kernel)
set_option maxRecDepth 65536 in
theorem w_c5 : (Jvm.Cond.code ({ cls := "com/example/fold_time/foldtime/model/ByteReader", name := "skip", desc := "(I)V" } : Jvm.MethodName) prog_4_method_6_code (2 : Nat) (Option.none : Option Jvm.ClassFile.FieldType)).before args0 about1 = true := code_word (m := ⟨2, 1⟩) (meth := k2m1) (c := k2c1) (by decide +kernel) rfl rfl rfl (by decide +kernel)
set_option maxRecDepth 65536 in
theorem w_c6 : (Jvm.Cond.code ({ cls := "com/example/fold_time/foldtime/model/ByteReader", name := "require", desc := "(I)V" } : Jvm.MethodName) prog_4_method_11_code (2 : Nat) (Option.none : Option Jvm.ClassFile.FieldType)).before args0 about1 = true := code_word (m := ⟨2, 6⟩) (meth := k2m6) (c := k2c6) (by decide +kernel) rfl rfl rfl (by decide +kernel)
set_option maxRecDepth 65536 in
theorem w_c7 : (Jvm.Cond.code ({ cls := "com/example/fold_time/foldtime/model/ByteReader", name := "position", desc := "()I" } : Jvm.MethodName) prog_4_method_8_code (1 : Nat) (Option.some Jvm.ClassFile.FieldType.int)).before args0 about1 = true := code_word (m := ⟨2, 3⟩) (meth := k2m3) (c := k2c3) (by decide +kernel) rfl rfl rfl (by decide +kernel)
set_option maxRecDepth 65536 in
theorem w_c8 : (Jvm.Cond.code ({ cls := "com/example/fold_time/foldtime/model/ByteReader", name := "remaining", desc := "()I" } : Jvm.MethodName) prog_4_method_10_code (1 : Nat) (Option.some Jvm.ClassFile.FieldType.int)).before args0 about1 = true := code_word (m := ⟨2, 5⟩) (meth := k2m5) (c := k2c5) (by decide +kernel) rfl rfl rfl (by decide +kernel)
set_option maxRecDepth 65536 in
theorem w_c9 : (Jvm.Cond.code ({ cls := "com/example/fold_time/foldtime/model/ByteReader", name := "hasRemaining", desc := "()Z" } : Jvm.MethodName) prog_4_method_9_code (1 : Nat) (Option.some Jvm.ClassFile.FieldType.boolean)).before args0 about1 = true := code_word (m := ⟨2, 4⟩) (meth := k2m4) (c := k2c4) (by decide +kernel) rfl rfl rfl (by decide +kernel)
set_option maxRecDepth 65536 in
theorem w_c10 : (Jvm.Cond.code ({ cls := "com/example/fold_time/foldtime/model/ByteReader", name := "array", desc := "()[B" } : Jvm.MethodName) prog_4_method_7_code (1 : Nat) (Option.some (Jvm.ClassFile.FieldType.array Jvm.ClassFile.FieldType.byte))).before args0 about1 = true := code_word (m := ⟨2, 2⟩) (meth := k2m2) (c := k2c2) (by decide +kernel) rfl rfl rfl (by decide +kernel)
def codes1 : List Jvm.Cond := [Jvm.Cond.code x code maxLocals ret, Jvm.Cond.code ({ cls := "com/example/fold_time/foldtime/model/ByteReader", name := "<init>", desc := "([BII)V" } : Jvm.MethodName) prog_4_method_1_code (4 : Nat) (Option.none : Option Jvm.ClassFile.FieldType), Jvm.Cond.code ({ cls := "java/lang/Object", name := "<init>", desc := "()V" } : Jvm.MethodName) object_method_1_code (1 : Nat) (Option.none : Option Jvm.ClassFile.FieldType), Jvm.Cond.code ({ cls := "java/util/Objects", name := "checkFromIndexSize", desc := "(III)I" } : Jvm.MethodName) jdk_31_method_19_code (3 : Nat) (Option.some Jvm.ClassFile.FieldType.int), Jvm.Cond.code ({ cls := "jdk/internal/util/Preconditions", name := "checkFromIndexSize", desc := "(IIILjava/util/function/BiFunction;)I" } : Jvm.MethodName) jdk_41_method_13_code (4 : Nat) (Option.some Jvm.ClassFile.FieldType.int), Jvm.Cond.code ({ cls := "com/example/fold_time/foldtime/model/ByteReader", name := "skip", desc := "(I)V" } : Jvm.MethodName) prog_4_method_6_code (2 : Nat) (Option.none : Option Jvm.ClassFile.FieldType), Jvm.Cond.code ({ cls := "com/example/fold_time/foldtime/model/ByteReader", name := "require", desc := "(I)V" } : Jvm.MethodName) prog_4_method_11_code (2 : Nat) (Option.none : Option Jvm.ClassFile.FieldType), Jvm.Cond.code ({ cls := "com/example/fold_time/foldtime/model/ByteReader", name := "position", desc := "()I" } : Jvm.MethodName) prog_4_method_8_code (1 : Nat) (Option.some Jvm.ClassFile.FieldType.int), Jvm.Cond.code ({ cls := "com/example/fold_time/foldtime/model/ByteReader", name := "remaining", desc := "()I" } : Jvm.MethodName) prog_4_method_10_code (1 : Nat) (Option.some Jvm.ClassFile.FieldType.int), Jvm.Cond.code ({ cls := "com/example/fold_time/foldtime/model/ByteReader", name := "hasRemaining", desc := "()Z" } : Jvm.MethodName) prog_4_method_9_code (1 : Nat) (Option.some Jvm.ClassFile.FieldType.boolean), Jvm.Cond.code ({ cls := "com/example/fold_time/foldtime/model/ByteReader", name := "array", desc := "()[B" } : Jvm.MethodName) prog_4_method_7_code (1 : Nat) (Option.some (Jvm.ClassFile.FieldType.array Jvm.ClassFile.FieldType.byte))]
set_option maxRecDepth 65536 in
theorem codes_eq : words1.filter isCode = codes1 := rfl
theorem w_codes : ∀ c ∈ words1.filter isCode, c.before args0 about1 = true := by
  rw [codes_eq]
  intro c hc
  simp only [codes1, List.mem_cons, List.not_mem_nil, or_false] at hc
  rcases hc with rfl | rfl | rfl | rfl | rfl | rfl | rfl | rfl | rfl | rfl | rfl
  · exact w_c0
  · exact w_c1
  · exact w_c2
  · exact w_c3
  · exact w_c4
  · exact w_c5
  · exact w_c6
  · exact w_c7
  · exact w_c8
  · exact w_c9
  · exact w_c10
set_option maxRecDepth 65536 in
theorem w_t1 : (words1.take 24).all (fun c => isCode c || c.before args0 about1) = true := by decide +kernel
set_option maxRecDepth 65536 in
theorem w_t2 : ((words1.drop 24).take 24).all (fun c => isCode c || c.before args0 about1) = true := by decide +kernel
set_option maxRecDepth 65536 in
theorem w_t3 : ((words1.drop 24).drop 24).all (fun c => isCode c || c.before args0 about1) = true := by decide +kernel
theorem w_tables : (allAtoms (Jvm.Cond.code x code maxLocals ret :: tables_1)).before args0 about1 = true := by
  rw [allAtoms_all]
  show words1.all (fun c => c.before args0 about1) = true
  refine all_split ?_ w_codes
  rw [← List.take_append_drop 24 words1, List.all_append, w_t1, ← List.take_append_drop 24 (words1.drop 24), List.all_append, w_t2, w_t3]
  rfl
set_option maxRecDepth 65536 in
theorem w_case : (Jvm.Cond.and given_1 narrow_1).before args0 about1 = true := by decide +kernel
theorem w_applies : (headSpec (Jvm.Cond.code x code maxLocals ret :: tables_1) room_1).applies x e0.platform about1 = true :=
  (Spec.applies_iff w_frames).mpr ⟨w_running, w_runnable, w_alone, w_named, w_hears, w_ripe, w_room, w_tables⟩
theorem atStart : AtStart classFile x code maxLocals ret World_1 tables_1 room_1 Calls_1 rest_1 Pre_1 launch0 p0 e0 about1 theMethod args0 below0 :=
  ⟨lists_1, trivial, launch0.admits_env _ _ _, launch0.least_env, fairChoices_fair.cas, fairChoices_fair.clock, w_frames, w_args, w_heap, w_applies, trivial, trivial, w_case⟩
end start1
theorem witness_1 : WitnessClaimed_1 := ⟨start1.p0, start1.e0, start1.about1, start1.theMethod, start1.args0, start1.below0, start1.atStart⟩
end Jvm.Pilot.@@N@@
