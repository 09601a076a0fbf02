import JvmDerived
import JvmDerived.Pilot.@@N@@Statement
import JvmDerived.Pilot.@@N@@Code
set_option linter.unusedVariables false
set_option linter.unusedSimpArgs false
@@BLOCK:NumsL.lean.txt@@
namespace Jvm.Pilot.@@N@@
open Jvm Jvm.ClassFile Sem Op Lib Jvm.Free Jvm.Stand Jvm.LawKit Jvm.RoadKit Bundle Jvm.Pilot.@@N@@.Jvm.D

/-! the walk's own small kit: from the frame g over the state T the body comes to its end, with Φ -/
def own_Go (p : Program) (e : Env) (below : List Frame) (T : State) (g : JFrame) (Φ : Outcome → State → Prop) : Prop :=
  ∃ s₂ o, Steps p.tables e below (T.setTop g) s₂ ∧ s₂.status = .running ∧ Ended s₂ below o ∧ Φ o s₂
def own_Fin (s : State) (Q : Option Value → Heap → List Loc → Prop) (k j : Nat) (o : Outcome) (U' : State) : Prop :=
  ∃ v L, o = .returned v ∧ Q v U'.heap L ∧ FrameEnd s o U' L k j
theorem own_by {p : Program} {e : Env} {below : List Frame} {T T' : State} {g g' : JFrame} {Φ : Outcome → State → Prop}
    (h : ∀ t, Steps p.tables e below (T'.setTop g') t → Steps p.tables e below (T.setTop g) t) (k : own_Go p e below T' g' Φ) : own_Go p e below T g Φ := by
  obtain ⟨s₂, o, h1, h2⟩ := k
  exact ⟨s₂, o, h _ h1, h2⟩
theorem own_start {p : Program} {e : Env} {below : List Frame} {s T : State} {g g' : JFrame} {Q : Option Value → Heap → List Loc → Prop} {k j : Nat} (hg : g = g')
    (h : own_Go p e below T g' (own_Fin s Q k j)) : ∃ s₂ o, Steps p.tables e below (T.setTop g) s₂ ∧ s₂.status = .running ∧ Ended s₂ below o ∧ ∃ v L, o = .returned v ∧ Q v s₂.heap L ∧ FrameEnd s o s₂ L k j := by
  subst hg
  exact h
section OwnRet
variable {p : Program} {l : Launch} {e : Env} {R : Room} {s : State} {m : MethodId} {args : Array Value} {below : List Frame} {meth : Method} {c : Code} {T : State} {locs : List Loc} {cells slots : Nat} {Q : Option Value → Heap → List Loc → Prop} {k j pc : Nat} {Ls : Array Slot} {rest : List Value}
theorem own_retN {t : FieldType} (ht : t = .boolean ∨ t = .byte ∨ t = .char ∨ t = .short) (X : Stand p l e R s m args below meth c T locs cells slots) (hx : p.tables.exec = Jvm.exec) (hret : meth.sig.returnType = some t) (hlk : meth.locks = false) {z : Int32} (hd : decode c.code pc = .ok (.ireturn, 1))
    (hz : nar t z = z) (hk : cells ≤ k) (hj : slots ≤ j) (q : Q (some (.int z)) T.heap locs) : own_Go p e below T (mkF m pc Ls (.int z :: rest)) (own_Fin s Q k j) := by
  obtain ⟨fs, hr, hrun, hended, hW, hsame⟩ := X.leave (v := some (.int z)) (fun h => by rw [hret] at h; cases h)
  exact ⟨_, _, retN X hx hret ht hd (by rw [hz]; exact hr), hrun, hended, _, _, rfl, q, ⟨_, rfl⟩, hW, hsame.mono hk hj⟩
theorem own_retZ (X : Stand p l e R s m args below meth c T locs cells slots) (hx : p.tables.exec = Jvm.exec) (hret : meth.sig.returnType = some .boolean) (hlk : meth.locks = false) {z : Int32} (hd : decode c.code pc = .ok (.ireturn, 1))
    (hz : nar .boolean z = z) (hk : cells ≤ k) (hj : slots ≤ j) (q : Q (some (.int z)) T.heap locs) : own_Go p e below T (mkF m pc Ls (.int z :: rest)) (own_Fin s Q k j) := own_retN (Or.inl rfl) X hx hret hlk hd hz hk hj q
theorem own_retI (X : Stand p l e R s m args below meth c T locs cells slots) (hx : p.tables.exec = Jvm.exec) (hret : meth.sig.returnType = some .int) (hlk : meth.locks = false) {z : Int32} (hd : decode c.code pc = .ok (.ireturn, 1))
    (hk : cells ≤ k) (hj : slots ≤ j) (q : Q (some (.int z)) T.heap locs) : own_Go p e below T (mkF m pc Ls (.int z :: rest)) (own_Fin s Q k j) := by
  obtain ⟨fs, hr, hrun, hended, hW, hsame⟩ := X.leave (v := some (.int z)) (fun h => by rw [hret] at h; cases h)
  exact ⟨_, _, retOut X hx hret rfl (Or.inl ⟨rfl, Or.inl rfl, z, rfl⟩) hd hr, hrun, hended, _, _, rfl, q, ⟨_, rfl⟩, hW, hsame.mono hk hj⟩
theorem own_retJ (X : Stand p l e R s m args below meth c T locs cells slots) (hx : p.tables.exec = Jvm.exec) (hret : meth.sig.returnType = some .long) (hlk : meth.locks = false) {z : Int64} (hd : decode c.code pc = .ok (.lreturn, 1))
    (hk : cells ≤ k) (hj : slots ≤ j) (q : Q (some (.long z)) T.heap locs) : own_Go p e below T (mkF m pc Ls (.long z :: rest)) (own_Fin s Q k j) := by
  obtain ⟨fs, hr, hrun, hended, hW, hsame⟩ := X.leave (v := some (.long z)) (fun h => by rw [hret] at h; cases h)
  exact ⟨_, _, retOut X hx hret rfl (Or.inr (Or.inl ⟨rfl, rfl, z, rfl⟩)) hd hr, hrun, hended, _, _, rfl, q, ⟨_, rfl⟩, hW, hsame.mono hk hj⟩
theorem own_retA {t : FieldType} (X : Stand p l e R s m args below meth c T locs cells slots) (hx : p.tables.exec = Jvm.exec) (hret : meth.sig.returnType = some t) (hlk : meth.locks = false) {z : Value} (hd : decode c.code pc = .ok (.areturn, 1))
    (ht : t.isReference = true) (hz : z.isRef = true) (hn : narrow t z = z) (hk : cells ≤ k) (hj : slots ≤ j) (q : Q (some z) T.heap locs) : own_Go p e below T (mkF m pc Ls (z :: rest)) (own_Fin s Q k j) := by
  obtain ⟨fs, hr, hrun, hended, hW, hsame⟩ := X.leave (v := some z) (fun h => by rw [hret] at h; cases h)
  exact ⟨_, _, retOut X hx hret hn (Or.inr (Or.inr (Or.inr (Or.inr ⟨rfl, ht, hz⟩)))) hd hr, hrun, hended, _, _, rfl, q, ⟨_, rfl⟩, hW, hsame.mono hk hj⟩
theorem own_retV (X : Stand p l e R s m args below meth c T locs cells slots) (hx : p.tables.exec = Jvm.exec) (hret : meth.sig.returnType = none) (hlk : meth.locks = false) (hd : decode c.code pc = .ok (.return_, 1))
    (hk : cells ≤ k) (hj : slots ≤ j) (q : Q none T.heap locs) : own_Go p e below T (mkF m pc Ls []) (own_Fin s Q k j) := by
  obtain ⟨fs, hr, hrun, hended, hW, hsame⟩ := X.leave (v := none) (fun _ => rfl)
  exact ⟨_, _, X.returnOut hx hret hd hr, hrun, hended, _, _, rfl, q, ⟨_, rfl⟩, hW, hsame.mono hk hj⟩
theorem own_lrem_eq (x y : Int64) : x - x / y * y = x % y := Int64.toInt_inj.mp (by rw [Jvm.Kit.i64_rem, Int64.toInt_mod])
theorem own_lrem {g : JFrame} {target : State} (X : Stand p l e R s m args below meth c T locs cells slots) (hx : p.tables.exec = Jvm.exec) (hg : g.method = m) {x y : Int64} {rest : List Value} (hd : decode c.code g.pc = .ok (.lrem, 1)) (hs : g.stack = .long y :: .long x :: rest) (hy : y ≠ 0)
    (hr : Steps p.tables e below (T.setTop { g with pc := g.pc + 1, stack := .long (x % y) :: rest }) target) : Steps p.tables e below (T.setTop g) target :=
  XS.lrem X.here hx hg hd hs hy (by rw [own_lrem_eq x y]; exact hr)
end OwnRet
/-! an array: its length, and what each place holds -/
abbrev own_At (j : Int32) (k : Nat) : Prop := ¬ j < 0 ∧ j.toNatClampNeg = k
def own_upd (f : Nat → Value) (k : Nat) (v : Value) : Nat → Value := fun i => if i = k then v else f i
theorem own_upd_hit {f : Nat → Value} {k i : Nat} {v : Value} (h : i = k) : own_upd f k v i = v := if_pos h
theorem own_upd_miss {f : Nat → Value} {k i : Nat} {v : Value} (h : ¬ i = k) : own_upd f k v i = f i := if_neg h
def own_Av (Z : State) (h : Heap) (a : Addr) (ty : FieldType) (n : Nat) (f : Nat → Value) : Prop := ∃ c : Cell, Arr Z h a c ty ∧ c.slots.size = n ∧ ∀ i, i < n → c.slots[i]? = some (f i)
section OwnArr
variable {Z : State} {h h' : Heap} {a b : Addr} {ty : FieldType} {n k sl : Nat} {f : Nat → Value} {v : Value} {ws : List Addr}
theorem own_Av.ext (F : own_Av Z h a ty n f) (E : Ext h h') : own_Av Z h' a ty n f := by obtain ⟨c, A, r⟩ := F; exact ⟨c, A.ext E, r⟩
theorem own_Av.other (F : own_Av Z h b ty n f) (W : Wr h h' a sl v) (q : b ≠ a) : own_Av Z h' b ty n f := by obtain ⟨c, A, r⟩ := F; exact ⟨c, A.other W q, r⟩
theorem own_Av.keep (F : own_Av Z h a ty n f) (K : Keep h h' ws) (q : a ∉ ws) : own_Av Z h' a ty n f := by obtain ⟨c, A, r⟩ := F; exact ⟨c, ⟨K.2.1 a c A.1 q, A.2⟩, r⟩
theorem own_Av.lt (F : own_Av Z h a ty n f) : a < h.size := by obtain ⟨c, A, -⟩ := F; exact A.lt
theorem own_Av.ofnew {z : Int32} {kc : ClassId} {d : Value} (A : Arr Z h a (newA kc ty z) ty) (hn : z.toNatClampNeg = n) (hd : defaultValue ty = d) : own_Av Z h a ty n (fun _ => d) := by
  subst hn hd
  exact ⟨_, A, sz_new _ _ _, fun i hi => by simp [newA, hi]⟩
theorem own_Av.set (F : own_Av Z h a ty n f) (W : Wr h h' a k v) : own_Av Z h' a ty n (own_upd f k v) := by
  obtain ⟨c, A, S, H⟩ := F
  refine ⟨_, A.same W, by rw [sz_set]; exact S, fun i hi => ?_⟩
  by_cases q : i = k
  · subst q
    rw [own_upd_hit rfl]
    simp [Cell.setSlot, S, hi]
  · rw [own_upd_miss q, ← H i hi]
    exact Array.getElem?_setIfInBounds_ne fun u => q u.symm
theorem own_Av.cong {g : Nat → Value} {n' : Nat} (F : own_Av Z h a ty n f) (hn : n = n') (q : ∀ i, i < n → f i = g i) : own_Av Z h a ty n' g := by
  subst hn
  obtain ⟨c, A, S, H⟩ := F
  exact ⟨c, A, S, fun i hi => by rw [← q i hi]; exact H i hi⟩
theorem own_in {j : Int32} (hj : own_At j k) (hk : k < n) {c : Cell} (S : c.slots.size = n) : ¬ (j < 0 ∨ c.slots.size ≤ j.toNatClampNeg) := by
  intro q
  rcases q with q | q
  · exact hj.1 q
  · rw [hj.2, S] at q; omega
variable {p : Program} {l : Launch} {e : Env} {R : Room} {s : State} {m : MethodId} {args : Array Value} {below : List Frame} {meth : Method} {c : Code} {T : State} {locs : List Loc} {cells slots : Nat}
theorem own_ldI (X : Stand p l e R s m args below meth c T locs cells slots) (hx : p.tables.exec = Jvm.exec) (hZ : Z.Warmed39 s.vm) (eT : T.heap = h) (F : own_Av Z h a .int n f) {j : Int32} (hj : own_At j k) (hk : k < n) (hv : f k = v)
    {g : JFrame} (hg : g.method = m) {rest : List Value} (hs : g.stack = .int j :: .ref a :: rest) (hd : decode c.code g.pc = .ok (.iaload, 1)) (t : State)
    (hr : Steps p.tables e below (T.setTop { g with pc := g.pc + 1, stack := v :: rest }) t) : Steps p.tables e below (T.setTop g) t := by
  obtain ⟨cl, A, S, H⟩ := F
  exact X.iaload hx (by rw [eT]; exact A.1) (State.isArrayOf_alike hZ.alike A.2.1) A.2.2 (own_in hj hk S) (by rw [hj.2, H k hk, hv]) hg hs hd t hr
theorem own_ldJ (X : Stand p l e R s m args below meth c T locs cells slots) (hx : p.tables.exec = Jvm.exec) (hZ : Z.Warmed39 s.vm) (eT : T.heap = h) (F : own_Av Z h a .long n f) {j : Int32} (hj : own_At j k) (hk : k < n) (hv : f k = v)
    {g : JFrame} (hg : g.method = m) {rest : List Value} (hs : g.stack = .int j :: .ref a :: rest) (hd : decode c.code g.pc = .ok (.laload, 1)) (t : State)
    (hr : Steps p.tables e below (T.setTop { g with pc := g.pc + 1, stack := v :: rest }) t) : Steps p.tables e below (T.setTop g) t := by
  obtain ⟨cl, A, S, H⟩ := F
  exact X.laload hx (by rw [eT]; exact A.1) (State.isArrayOf_alike hZ.alike A.2.1) A.2.2 (own_in hj hk S) (by rw [hj.2, H k hk, hv]) hg hs hd t hr
theorem own_ldS (X : Stand p l e R s m args below meth c T locs cells slots) (hx : p.tables.exec = Jvm.exec) (hZ : Z.Warmed39 s.vm) (eT : T.heap = h) (F : own_Av Z h a .short n f) {j : Int32} (hj : own_At j k) (hk : k < n) (hv : f k = v)
    {g : JFrame} (hg : g.method = m) {rest : List Value} (hs : g.stack = .int j :: .ref a :: rest) (hd : decode c.code g.pc = .ok (.saload, 1)) (t : State)
    (hr : Steps p.tables e below (T.setTop { g with pc := g.pc + 1, stack := v :: rest }) t) : Steps p.tables e below (T.setTop g) t := by
  obtain ⟨cl, A, S, H⟩ := F
  exact X.saload hx (by rw [eT]; exact A.1) (State.isArrayOf_alike hZ.alike A.2.1) A.2.2 (own_in hj hk S) (by rw [hj.2, H k hk, hv]) hg hs hd t hr
theorem own_ldC (X : Stand p l e R s m args below meth c T locs cells slots) (hx : p.tables.exec = Jvm.exec) (hZ : Z.Warmed39 s.vm) (eT : T.heap = h) (F : own_Av Z h a .char n f) {j : Int32} (hj : own_At j k) (hk : k < n) (hv : f k = v)
    {g : JFrame} (hg : g.method = m) {rest : List Value} (hs : g.stack = .int j :: .ref a :: rest) (hd : decode c.code g.pc = .ok (.caload, 1)) (t : State)
    (hr : Steps p.tables e below (T.setTop { g with pc := g.pc + 1, stack := v :: rest }) t) : Steps p.tables e below (T.setTop g) t := by
  obtain ⟨cl, A, S, H⟩ := F
  exact X.caload hx (by rw [eT]; exact A.1) (State.isArrayOf_alike hZ.alike A.2.1) A.2.2 (own_in hj hk S) (by rw [hj.2, H k hk, hv]) hg hs hd t hr
theorem own_ldB (X : Stand p l e R s m args below meth c T locs cells slots) (hx : p.tables.exec = Jvm.exec) (hZ : Z.Warmed39 s.vm) (eT : T.heap = h) (F : own_Av Z h a .byte n f) {j : Int32} (hj : own_At j k) (hk : k < n) (hv : f k = v)
    {g : JFrame} (hg : g.method = m) {rest : List Value} (hs : g.stack = .int j :: .ref a :: rest) (hd : decode c.code g.pc = .ok (.baload, 1)) (t : State)
    (hr : Steps p.tables e below (T.setTop { g with pc := g.pc + 1, stack := v :: rest }) t) : Steps p.tables e below (T.setTop g) t := by
  obtain ⟨cl, A, S, H⟩ := F
  exact X.baloadBytes hx (by rw [eT]; exact A.1) (State.isArrayOf_alike hZ.alike A.2.1) A.2.2 (own_in hj hk S) (by rw [hj.2, H k hk, hv]) hg hs hd t hr
theorem own_ldZ (X : Stand p l e R s m args below meth c T locs cells slots) (hx : p.tables.exec = Jvm.exec) (hZ : Z.Warmed39 s.vm) (eT : T.heap = h) (F : own_Av Z h a .boolean n f) {j : Int32} (hj : own_At j k) (hk : k < n) (hv : f k = v)
    {g : JFrame} (hg : g.method = m) {rest : List Value} (hs : g.stack = .int j :: .ref a :: rest) (hd : decode c.code g.pc = .ok (.baload, 1)) (t : State)
    (hr : Steps p.tables e below (T.setTop { g with pc := g.pc + 1, stack := v :: rest }) t) : Steps p.tables e below (T.setTop g) t := by
  obtain ⟨cl, A, S, H⟩ := F
  exact X.baloadBooleans hx (by rw [eT]; exact A.1) (State.isArrayOf_alike hZ.alike A.2.1) A.2.2 (own_in hj hk S) (by rw [hj.2, H k hk, hv]) hg hs hd t hr
theorem own_len (X : Stand p l e R s m args below meth c T locs cells slots) (hx : p.tables.exec = Jvm.exec) (hZ : Z.Warmed39 s.vm) (eT : T.heap = h) (F : own_Av Z h a ty n f) {z : Int32} (hz : n.toInt32 = z)
    {g : JFrame} (hg : g.method = m) {rest : List Value} (hs : g.stack = .ref a :: rest) (hd : decode c.code g.pc = .ok (.arraylength, 1)) (t : State)
    (hr : Steps p.tables e below (T.setTop { g with pc := g.pc + 1, stack := .int z :: rest }) t) : Steps p.tables e below (T.setTop g) t := by
  obtain ⟨cl, A, S, H⟩ := F
  exact X.arraylength hx (by rw [eT]; exact A.1) (State.isArrayOf_alike hZ.alike A.2.1) hg hs hd t (by rw [S, hz]; exact hr)
theorem own_stI (X : Stand p l e R s m args below meth c T locs cells slots) (hx : p.tables.exec = Jvm.exec) (hZ : Z.Warmed39 s.vm) (eT : T.heap = h) (F : own_Av Z h a .int n f) {j x : Int32} (hj : own_At j k) (hk : k < n)
    {g : JFrame} (hg : g.method = m) {rest : List Value} (hs : g.stack = .int x :: .int j :: .ref a :: rest) (hd : decode c.code g.pc = .ok (.iastore, 1)) :
    ∃ T' h', Stand p l e R s m args below meth c T' (locs ++ [⟨a, k⟩]) cells slots ∧ T'.heap = h' ∧ Wr h h' a k (.int x) ∧ own_Av Z h' a .int n (own_upd f k (.int x)) ∧ ∀ target, Steps p.tables e below (T'.setTop { g with pc := g.pc + 1, stack := rest }) target → Steps p.tables e below (T.setTop g) target := by
  obtain ⟨cl, A, S, H⟩ := id F
  obtain ⟨T', h', X', e', W', st⟩ := stI X hx hZ eT A (own_in hj hk S) hg hs hd
  rw [hj.2] at X' W'
  exact ⟨T', h', X', e', W', F.set W', st⟩
theorem own_stJ (X : Stand p l e R s m args below meth c T locs cells slots) (hx : p.tables.exec = Jvm.exec) (hZ : Z.Warmed39 s.vm) (eT : T.heap = h) (F : own_Av Z h a .long n f) {j : Int32} {x : Int64} (hj : own_At j k) (hk : k < n)
    {g : JFrame} (hg : g.method = m) {rest : List Value} (hs : g.stack = .long x :: .int j :: .ref a :: rest) (hd : decode c.code g.pc = .ok (.lastore, 1)) :
    ∃ T' h', Stand p l e R s m args below meth c T' (locs ++ [⟨a, k⟩]) cells slots ∧ T'.heap = h' ∧ Wr h h' a k (.long x) ∧ own_Av Z h' a .long n (own_upd f k (.long x)) ∧ ∀ target, Steps p.tables e below (T'.setTop { g with pc := g.pc + 1, stack := rest }) target → Steps p.tables e below (T.setTop g) target := by
  obtain ⟨cl, A, S, H⟩ := id F
  obtain ⟨T', h', X', e', W', st⟩ := stJ X hx hZ eT A (own_in hj hk S) hg hs hd
  rw [hj.2] at X' W'
  exact ⟨T', h', X', e', W', F.set W', st⟩
theorem own_stB (X : Stand p l e R s m args below meth c T locs cells slots) (hx : p.tables.exec = Jvm.exec) (hZ : Z.Warmed39 s.vm) (eT : T.heap = h) (F : own_Av Z h a .byte n f) {j x : Int32} (hj : own_At j k) (hk : k < n)
    {g : JFrame} (hg : g.method = m) {rest : List Value} (hs : g.stack = .int x :: .int j :: .ref a :: rest) (hd : decode c.code g.pc = .ok (.bastore, 1)) :
    ∃ T' h', Stand p l e R s m args below meth c T' (locs ++ [⟨a, k⟩]) cells slots ∧ T'.heap = h' ∧ Wr h h' a k (.int x.toInt8.toInt32) ∧ own_Av Z h' a .byte n (own_upd f k (.int x.toInt8.toInt32)) ∧ ∀ target, Steps p.tables e below (T'.setTop { g with pc := g.pc + 1, stack := rest }) target → Steps p.tables e below (T.setTop g) target := by
  obtain ⟨cl, A, S, H⟩ := id F
  obtain ⟨T', h', X', e', W', st⟩ := stB X hx hZ eT A (own_in hj hk S) hg hs hd
  rw [hj.2] at X' W'
  exact ⟨T', h', X', e', W', F.set W', st⟩
theorem own_stZ (X : Stand p l e R s m args below meth c T locs cells slots) (hx : p.tables.exec = Jvm.exec) (hZ : Z.Warmed39 s.vm) (eT : T.heap = h) (F : own_Av Z h a .boolean n f) {j x : Int32} (hj : own_At j k) (hk : k < n)
    {g : JFrame} (hg : g.method = m) {rest : List Value} (hs : g.stack = .int x :: .int j :: .ref a :: rest) (hd : decode c.code g.pc = .ok (.bastore, 1)) :
    ∃ T' h', Stand p l e R s m args below meth c T' (locs ++ [⟨a, k⟩]) cells slots ∧ T'.heap = h' ∧ Wr h h' a k (.int (x &&& 1)) ∧ own_Av Z h' a .boolean n (own_upd f k (.int (x &&& 1))) ∧ ∀ target, Steps p.tables e below (T'.setTop { g with pc := g.pc + 1, stack := rest }) target → Steps p.tables e below (T.setTop g) target := by
  obtain ⟨cl, A, S, H⟩ := id F
  obtain ⟨T', h', X', e', W', st⟩ := stZ X hx hZ eT A (own_in hj hk S) hg hs hd
  rw [hj.2] at X' W'
  exact ⟨T', h', X', e', W', F.set W', st⟩
theorem own_stC (X : Stand p l e R s m args below meth c T locs cells slots) (hx : p.tables.exec = Jvm.exec) (hZ : Z.Warmed39 s.vm) (eT : T.heap = h) (F : own_Av Z h a .char n f) {j x : Int32} (hj : own_At j k) (hk : k < n)
    {g : JFrame} (hg : g.method = m) {rest : List Value} (hs : g.stack = .int x :: .int j :: .ref a :: rest) (hd : decode c.code g.pc = .ok (.castore, 1)) :
    ∃ T' h', Stand p l e R s m args below meth c T' (locs ++ [⟨a, k⟩]) cells slots ∧ T'.heap = h' ∧ Wr h h' a k (.int (nar .char x)) ∧ own_Av Z h' a .char n (own_upd f k (.int (nar .char x))) ∧ ∀ target, Steps p.tables e below (T'.setTop { g with pc := g.pc + 1, stack := rest }) target → Steps p.tables e below (T.setTop g) target := by
  obtain ⟨cl, A, S, H⟩ := id F
  obtain ⟨T', h', X', e', W', st⟩ := stC X hx hZ eT A (own_in hj hk S) hg hs hd
  rw [hj.2] at X' W'
  exact ⟨T', h', X', e', W', F.set W', st⟩
theorem own_stS (X : Stand p l e R s m args below meth c T locs cells slots) (hx : p.tables.exec = Jvm.exec) (hZ : Z.Warmed39 s.vm) (eT : T.heap = h) (F : own_Av Z h a .short n f) {j x : Int32} (hj : own_At j k) (hk : k < n)
    {g : JFrame} (hg : g.method = m) {rest : List Value} (hs : g.stack = .int x :: .int j :: .ref a :: rest) (hd : decode c.code g.pc = .ok (.sastore, 1)) :
    ∃ T' h', Stand p l e R s m args below meth c T' (locs ++ [⟨a, k⟩]) cells slots ∧ T'.heap = h' ∧ Wr h h' a k (.int (nar .short x)) ∧ own_Av Z h' a .short n (own_upd f k (.int (nar .short x))) ∧ ∀ target, Steps p.tables e below (T'.setTop { g with pc := g.pc + 1, stack := rest }) target → Steps p.tables e below (T.setTop g) target := by
  obtain ⟨cl, A, S, H⟩ := id F
  obtain ⟨T', h', X', e', W', st⟩ := stS X hx hZ eT A (own_in hj hk S) hg hs hd
  rw [hj.2] at X' W'
  exact ⟨T', h', X', e', W', F.set W', st⟩
end OwnArr
theorem own_selP {Z s : State} {a0 args : Array Value} {y : MethodName} {n : Nat} (hZ : Z.Warmed39 s.vm) (wi : (Cond.instantiable y.cls n).before a0 Z = true) (wp : (Cond.privateMethod y).before a0 Z = true) (wm : (Cond.instanceMethod y).before a0 Z = true)
    (hy : y.cls ≠ "java/lang/invoke/MethodHandle" ∧ y.cls ≠ "java/lang/invoke/VarHandle") : (Cond.selects y.cls y y).before args s = true := by
  have w : (Cond.instantiable y.cls n).before args s = true := mvT hZ wi
  obtain ⟨c, k, h1, h2, -, h4, -⟩ := Cond.instantiable_spec w
  exact Jvm.Stand.selects_self_of_private h1 h2 (Bool.or_eq_false_iff.mp h4).1 (Cond.privateMethod_at (mvP hZ wp (args := args))) (mvT hZ wm) hy
theorem own_narZ {x : Int32} (h : x &&& 1 = x) : narrow .boolean (.int x) = .int x := by
  show Value.int (x &&& 1) = _
  rw [h]
theorem own_fitZ {x : Int32} (h : x &&& 1 = x) : fits .boolean (.int x) = true := by
  have q := fits_nar_bool x
  rw [show nar .boolean x = x from h] at q
  exact q
theorem own_mono {p : Program} {e : Env} {below : List Frame} {s T : State} {g : JFrame} {Q Q' : Option Value → Heap → List Loc → Prop} {k j : Nat} (h : ∀ v h L, Q v h L → Q' v h L) (G : own_Go p e below T g (own_Fin s Q k j)) : own_Go p e below T g (own_Fin s Q' k j) := by
  obtain ⟨s₂, o, h1, h2, h3, v, L, h4, h5, h6⟩ := G
  exact ⟨s₂, o, h1, h2, h3, v, L, h4, h _ _ _ h5, h6⟩
theorem own_ofs (i : Nat) : Int32.ofNat i + (1 : Int32) = Int32.ofNat (i + 1) := (Int32.ofNat_add i 1).symm
theorem own_toI {i : Nat} (h : i < 2147483648) : (Int32.ofNat i).toInt = i := Int32.toInt_ofNat_small h
theorem own_ix {i : Nat} (h : i < 2147483648) : own_At (Int32.ofNat i) i := by
  have e := own_toI h
  refine ⟨?_, ?_⟩
  · rw [Int32.lt_iff_toInt_lt, e, show (0 : Int32).toInt = 0 from by decide]; omega
  · simp only [Int32.toNatClampNeg, e]; omega
theorem own_oflt {i n : Nat} (hi : i < 2147483648) (hn : n < 2147483648) : Int32.ofNat i < Int32.ofNat n ↔ i < n := by
  rw [Int32.lt_iff_toInt_lt, own_toI hi, own_toI hn]; omega
theorem own_ofeq {i n : Nat} (hi : i < 2147483648) (hn : n < 2147483648) : Int32.ofNat i = Int32.ofNat n ↔ i = n := by
  rw [← Int32.toInt_inj, own_toI hi, own_toI hn]; omega
def own_fl (F : Nat → Int32) (i : Nat) (g : Nat → Value) (j : Nat) : Value := if j < i then .int (F j) else g j
theorem own_fl_up (F : Nat → Int32) (i : Nat) (g : Nat → Value) : ∀ j, own_upd (own_fl F i g) i (.int (F i)) j = own_fl F (i + 1) g j := fun j => by
  unfold own_fl
  by_cases q : j = i
  · subst q; rw [own_upd_hit rfl, if_pos (by omega)]
  · rw [own_upd_miss q]
    by_cases q2 : j < i
    · rw [if_pos q2, if_pos (by omega)]
    · rw [if_neg q2, if_neg (by omega)]
theorem own_fl0 (F : Nat → Int32) (g : Nat → Value) : ∀ j, g j = own_fl F 0 g j := fun j => by unfold own_fl; rw [if_neg (by omega)]
theorem own_fl_in {F : Nat → Int32} {i j : Nat} {g : Nat → Value} (h : j < i) : own_fl F i g j = .int (F j) := if_pos h
theorem own_fl_out {F : Nat → Int32} {i j : Nat} {g : Nat → Value} (h : ¬ j < i) : own_fl F i g j = g j := if_neg h

/-! single steps over own_Go -/
theorem own_s_iadd {p : Program} {e : Env} {below : List Frame} {T : State} {m : MethodId} {c : Code} {Φ : Outcome → State → Prop} {pc : Nat} {L : Array Slot} {S : List Value} (h : At T m c below) (hx : p.tables.exec = Jvm.exec) {x y : Int32} (hd : decode c.code pc = .ok (.iadd, 1)) (G : own_Go p e below T (mkF m (pc + 1) L (.int (x + y) :: S)) Φ) : own_Go p e below T (mkF m pc L (.int y :: .int x :: S)) Φ := own_by (fun t k => XS.iadd h hx rfl hd rfl k) G
theorem own_s_isub {p : Program} {e : Env} {below : List Frame} {T : State} {m : MethodId} {c : Code} {Φ : Outcome → State → Prop} {pc : Nat} {L : Array Slot} {S : List Value} (h : At T m c below) (hx : p.tables.exec = Jvm.exec) {x y : Int32} (hd : decode c.code pc = .ok (.isub, 1)) (G : own_Go p e below T (mkF m (pc + 1) L (.int (x - y) :: S)) Φ) : own_Go p e below T (mkF m pc L (.int y :: .int x :: S)) Φ := own_by (fun t k => XS.isub h hx rfl hd rfl k) G
theorem own_s_imul {p : Program} {e : Env} {below : List Frame} {T : State} {m : MethodId} {c : Code} {Φ : Outcome → State → Prop} {pc : Nat} {L : Array Slot} {S : List Value} (h : At T m c below) (hx : p.tables.exec = Jvm.exec) {x y : Int32} (hd : decode c.code pc = .ok (.imul, 1)) (G : own_Go p e below T (mkF m (pc + 1) L (.int (x * y) :: S)) Φ) : own_Go p e below T (mkF m pc L (.int y :: .int x :: S)) Φ := own_by (fun t k => XS.imul h hx rfl hd rfl k) G
theorem own_s_iand {p : Program} {e : Env} {below : List Frame} {T : State} {m : MethodId} {c : Code} {Φ : Outcome → State → Prop} {pc : Nat} {L : Array Slot} {S : List Value} (h : At T m c below) (hx : p.tables.exec = Jvm.exec) {x y : Int32} (hd : decode c.code pc = .ok (.iand, 1)) (G : own_Go p e below T (mkF m (pc + 1) L (.int (x &&& y) :: S)) Φ) : own_Go p e below T (mkF m pc L (.int y :: .int x :: S)) Φ := own_by (fun t k => XS.iand h hx rfl hd rfl k) G
theorem own_s_ior {p : Program} {e : Env} {below : List Frame} {T : State} {m : MethodId} {c : Code} {Φ : Outcome → State → Prop} {pc : Nat} {L : Array Slot} {S : List Value} (h : At T m c below) (hx : p.tables.exec = Jvm.exec) {x y : Int32} (hd : decode c.code pc = .ok (.ior, 1)) (G : own_Go p e below T (mkF m (pc + 1) L (.int (x ||| y) :: S)) Φ) : own_Go p e below T (mkF m pc L (.int y :: .int x :: S)) Φ := own_by (fun t k => XS.ior h hx rfl hd rfl k) G
theorem own_s_ixor {p : Program} {e : Env} {below : List Frame} {T : State} {m : MethodId} {c : Code} {Φ : Outcome → State → Prop} {pc : Nat} {L : Array Slot} {S : List Value} (h : At T m c below) (hx : p.tables.exec = Jvm.exec) {x y : Int32} (hd : decode c.code pc = .ok (.ixor, 1)) (G : own_Go p e below T (mkF m (pc + 1) L (.int (x ^^^ y) :: S)) Φ) : own_Go p e below T (mkF m pc L (.int y :: .int x :: S)) Φ := own_by (fun t k => XS.ixor h hx rfl hd rfl k) G
theorem own_s_ladd {p : Program} {e : Env} {below : List Frame} {T : State} {m : MethodId} {c : Code} {Φ : Outcome → State → Prop} {pc : Nat} {L : Array Slot} {S : List Value} (h : At T m c below) (hx : p.tables.exec = Jvm.exec) {x y : Int64} (hd : decode c.code pc = .ok (.ladd, 1)) (G : own_Go p e below T (mkF m (pc + 1) L (.long (x + y) :: S)) Φ) : own_Go p e below T (mkF m pc L (.long y :: .long x :: S)) Φ := own_by (fun t k => XS.ladd h hx rfl hd rfl k) G
theorem own_s_lsub {p : Program} {e : Env} {below : List Frame} {T : State} {m : MethodId} {c : Code} {Φ : Outcome → State → Prop} {pc : Nat} {L : Array Slot} {S : List Value} (h : At T m c below) (hx : p.tables.exec = Jvm.exec) {x y : Int64} (hd : decode c.code pc = .ok (.lsub, 1)) (G : own_Go p e below T (mkF m (pc + 1) L (.long (x - y) :: S)) Φ) : own_Go p e below T (mkF m pc L (.long y :: .long x :: S)) Φ := own_by (fun t k => XS.lsub h hx rfl hd rfl k) G
theorem own_s_lmul {p : Program} {e : Env} {below : List Frame} {T : State} {m : MethodId} {c : Code} {Φ : Outcome → State → Prop} {pc : Nat} {L : Array Slot} {S : List Value} (h : At T m c below) (hx : p.tables.exec = Jvm.exec) {x y : Int64} (hd : decode c.code pc = .ok (.lmul, 1)) (G : own_Go p e below T (mkF m (pc + 1) L (.long (x * y) :: S)) Φ) : own_Go p e below T (mkF m pc L (.long y :: .long x :: S)) Φ := own_by (fun t k => XS.lmul h hx rfl hd rfl k) G
theorem own_s_land {p : Program} {e : Env} {below : List Frame} {T : State} {m : MethodId} {c : Code} {Φ : Outcome → State → Prop} {pc : Nat} {L : Array Slot} {S : List Value} (h : At T m c below) (hx : p.tables.exec = Jvm.exec) {x y : Int64} (hd : decode c.code pc = .ok (.land, 1)) (G : own_Go p e below T (mkF m (pc + 1) L (.long (x &&& y) :: S)) Φ) : own_Go p e below T (mkF m pc L (.long y :: .long x :: S)) Φ := own_by (fun t k => XS.land h hx rfl hd rfl k) G
theorem own_s_lor {p : Program} {e : Env} {below : List Frame} {T : State} {m : MethodId} {c : Code} {Φ : Outcome → State → Prop} {pc : Nat} {L : Array Slot} {S : List Value} (h : At T m c below) (hx : p.tables.exec = Jvm.exec) {x y : Int64} (hd : decode c.code pc = .ok (.lor, 1)) (G : own_Go p e below T (mkF m (pc + 1) L (.long (x ||| y) :: S)) Φ) : own_Go p e below T (mkF m pc L (.long y :: .long x :: S)) Φ := own_by (fun t k => XS.lor h hx rfl hd rfl k) G
theorem own_s_lxor {p : Program} {e : Env} {below : List Frame} {T : State} {m : MethodId} {c : Code} {Φ : Outcome → State → Prop} {pc : Nat} {L : Array Slot} {S : List Value} (h : At T m c below) (hx : p.tables.exec = Jvm.exec) {x y : Int64} (hd : decode c.code pc = .ok (.lxor, 1)) (G : own_Go p e below T (mkF m (pc + 1) L (.long (x ^^^ y) :: S)) Φ) : own_Go p e below T (mkF m pc L (.long y :: .long x :: S)) Φ := own_by (fun t k => XS.lxor h hx rfl hd rfl k) G
theorem own_s_ishl {p : Program} {e : Env} {below : List Frame} {T : State} {m : MethodId} {c : Code} {Φ : Outcome → State → Prop} {pc : Nat} {L : Array Slot} {S : List Value} (h : At T m c below) (hx : p.tables.exec = Jvm.exec) {x y : Int32} (hd : decode c.code pc = .ok (.ishl, 1)) (G : own_Go p e below T (mkF m (pc + 1) L (.int (x <<< (y &&& 31)) :: S)) Φ) : own_Go p e below T (mkF m pc L (.int y :: .int x :: S)) Φ := own_by (fun t k => XS.ishl h hx rfl hd rfl k) G
theorem own_s_ishr {p : Program} {e : Env} {below : List Frame} {T : State} {m : MethodId} {c : Code} {Φ : Outcome → State → Prop} {pc : Nat} {L : Array Slot} {S : List Value} (h : At T m c below) (hx : p.tables.exec = Jvm.exec) {x y : Int32} (hd : decode c.code pc = .ok (.ishr, 1)) (G : own_Go p e below T (mkF m (pc + 1) L (.int (x >>> (y &&& 31)) :: S)) Φ) : own_Go p e below T (mkF m pc L (.int y :: .int x :: S)) Φ := own_by (fun t k => XS.ishr h hx rfl hd rfl k) G
theorem own_s_iushr {p : Program} {e : Env} {below : List Frame} {T : State} {m : MethodId} {c : Code} {Φ : Outcome → State → Prop} {pc : Nat} {L : Array Slot} {S : List Value} (h : At T m c below) (hx : p.tables.exec = Jvm.exec) {x y : Int32} (hd : decode c.code pc = .ok (.iushr, 1)) (G : own_Go p e below T (mkF m (pc + 1) L (.int ((x.toUInt32 >>> (y &&& 31).toUInt32).toInt32) :: S)) Φ) : own_Go p e below T (mkF m pc L (.int y :: .int x :: S)) Φ := own_by (fun t k => XS.iushr h hx rfl hd rfl k) G
theorem own_s_lshl {p : Program} {e : Env} {below : List Frame} {T : State} {m : MethodId} {c : Code} {Φ : Outcome → State → Prop} {pc : Nat} {L : Array Slot} {S : List Value} (h : At T m c below) (hx : p.tables.exec = Jvm.exec) {x : Int64} {y : Int32} (hd : decode c.code pc = .ok (.lshl, 1)) (G : own_Go p e below T (mkF m (pc + 1) L (.long (x <<< (y &&& 0x3f).toInt64) :: S)) Φ) : own_Go p e below T (mkF m pc L (.int y :: .long x :: S)) Φ := own_by (fun t k => XS.lshl h hx rfl hd rfl k) G
theorem own_s_lshr {p : Program} {e : Env} {below : List Frame} {T : State} {m : MethodId} {c : Code} {Φ : Outcome → State → Prop} {pc : Nat} {L : Array Slot} {S : List Value} (h : At T m c below) (hx : p.tables.exec = Jvm.exec) {x : Int64} {y : Int32} (hd : decode c.code pc = .ok (.lshr, 1)) (G : own_Go p e below T (mkF m (pc + 1) L (.long (x >>> (y &&& 0x3f).toInt64) :: S)) Φ) : own_Go p e below T (mkF m pc L (.int y :: .long x :: S)) Φ := own_by (fun t k => XS.lshr h hx rfl hd rfl k) G
theorem own_s_lushr {p : Program} {e : Env} {below : List Frame} {T : State} {m : MethodId} {c : Code} {Φ : Outcome → State → Prop} {pc : Nat} {L : Array Slot} {S : List Value} (h : At T m c below) (hx : p.tables.exec = Jvm.exec) {x : Int64} {y : Int32} (hd : decode c.code pc = .ok (.lushr, 1)) (G : own_Go p e below T (mkF m (pc + 1) L (.long ((x.toUInt64 >>> (y &&& 0x3f).toInt64.toUInt64).toInt64) :: S)) Φ) : own_Go p e below T (mkF m pc L (.int y :: .long x :: S)) Φ := own_by (fun t k => XS.lushr h hx rfl hd rfl k) G
theorem own_s_ineg {p : Program} {e : Env} {below : List Frame} {T : State} {m : MethodId} {c : Code} {Φ : Outcome → State → Prop} {pc : Nat} {L : Array Slot} {S : List Value} (h : At T m c below) (hx : p.tables.exec = Jvm.exec) {x : Int32} (hd : decode c.code pc = .ok (.ineg, 1)) (G : own_Go p e below T (mkF m (pc + 1) L (.int (-x) :: S)) Φ) : own_Go p e below T (mkF m pc L (.int x :: S)) Φ := own_by (fun t k => XS.ineg h hx rfl hd rfl k) G
theorem own_s_lneg {p : Program} {e : Env} {below : List Frame} {T : State} {m : MethodId} {c : Code} {Φ : Outcome → State → Prop} {pc : Nat} {L : Array Slot} {S : List Value} (h : At T m c below) (hx : p.tables.exec = Jvm.exec) {x : Int64} (hd : decode c.code pc = .ok (.lneg, 1)) (G : own_Go p e below T (mkF m (pc + 1) L (.long (-x) :: S)) Φ) : own_Go p e below T (mkF m pc L (.long x :: S)) Φ := own_by (fun t k => XS.lneg h hx rfl hd rfl k) G
theorem own_s_i2l {p : Program} {e : Env} {below : List Frame} {T : State} {m : MethodId} {c : Code} {Φ : Outcome → State → Prop} {pc : Nat} {L : Array Slot} {S : List Value} (h : At T m c below) (hx : p.tables.exec = Jvm.exec) {x : Int32} (hd : decode c.code pc = .ok (.i2l, 1)) (G : own_Go p e below T (mkF m (pc + 1) L (.long (x.toInt64) :: S)) Φ) : own_Go p e below T (mkF m pc L (.int x :: S)) Φ := own_by (fun t k => XS.i2l h hx rfl hd rfl k) G
theorem own_s_l2i {p : Program} {e : Env} {below : List Frame} {T : State} {m : MethodId} {c : Code} {Φ : Outcome → State → Prop} {pc : Nat} {L : Array Slot} {S : List Value} (h : At T m c below) (hx : p.tables.exec = Jvm.exec) {x : Int64} (hd : decode c.code pc = .ok (.l2i, 1)) (G : own_Go p e below T (mkF m (pc + 1) L (.int (x.toInt32) :: S)) Φ) : own_Go p e below T (mkF m pc L (.long x :: S)) Φ := own_by (fun t k => XS.l2i h hx rfl hd rfl k) G
theorem own_s_i2b {p : Program} {e : Env} {below : List Frame} {T : State} {m : MethodId} {c : Code} {Φ : Outcome → State → Prop} {pc : Nat} {L : Array Slot} {S : List Value} (h : At T m c below) (hx : p.tables.exec = Jvm.exec) {x : Int32} (hd : decode c.code pc = .ok (.i2b, 1)) (G : own_Go p e below T (mkF m (pc + 1) L (.int (x.toInt8.toInt32) :: S)) Φ) : own_Go p e below T (mkF m pc L (.int x :: S)) Φ := own_by (fun t k => XS.i2b h hx rfl hd rfl k) G
theorem own_s_i2s {p : Program} {e : Env} {below : List Frame} {T : State} {m : MethodId} {c : Code} {Φ : Outcome → State → Prop} {pc : Nat} {L : Array Slot} {S : List Value} (h : At T m c below) (hx : p.tables.exec = Jvm.exec) {x : Int32} (hd : decode c.code pc = .ok (.i2s, 1)) (G : own_Go p e below T (mkF m (pc + 1) L (.int (x.toInt16.toInt32) :: S)) Φ) : own_Go p e below T (mkF m pc L (.int x :: S)) Φ := own_by (fun t k => XS.i2s h hx rfl hd rfl k) G
theorem own_s_i2c {p : Program} {e : Env} {below : List Frame} {T : State} {m : MethodId} {c : Code} {Φ : Outcome → State → Prop} {pc : Nat} {L : Array Slot} {S : List Value} (h : At T m c below) (hx : p.tables.exec = Jvm.exec) {x : Int32} (hd : decode c.code pc = .ok (.i2c, 1)) (G : own_Go p e below T (mkF m (pc + 1) L (.int (x.toUInt32.toUInt16.toUInt32.toInt32) :: S)) Φ) : own_Go p e below T (mkF m pc L (.int x :: S)) Φ := own_by (fun t k => XS.i2c h hx rfl hd rfl k) G
theorem own_s_iloadN {p : Program} {e : Env} {below : List Frame} {T : State} {m : MethodId} {c : Code} {Φ : Outcome → State → Prop} {pc : Nat} {L : Array Slot} {S : List Value} (h : At T m c below) (hx : p.tables.exec = Jvm.exec) {i : Fin 4} {v : Int32} (hd : decode c.code pc = .ok (.iload_n i, 1)) (hl : L[i.val]? = some (.val (.int v))) (G : own_Go p e below T (mkF m (pc + 1) L (.int v :: S)) Φ) : own_Go p e below T (mkF m pc L S) Φ := own_by (fun t k => XS.iloadN h hx rfl hd hl k) G
theorem own_s_iload {p : Program} {e : Env} {below : List Frame} {T : State} {m : MethodId} {c : Code} {Φ : Outcome → State → Prop} {pc : Nat} {L : Array Slot} {S : List Value} (h : At T m c below) (hx : p.tables.exec = Jvm.exec) {i : Nat} {v : Int32} (hd : decode c.code pc = .ok (.iload i, 2)) (hl : L[i]? = some (.val (.int v))) (G : own_Go p e below T (mkF m (pc + 2) L (.int v :: S)) Φ) : own_Go p e below T (mkF m pc L S) Φ := own_by (fun t k => XS.iload h hx rfl hd hl k) G
theorem own_s_lloadN {p : Program} {e : Env} {below : List Frame} {T : State} {m : MethodId} {c : Code} {Φ : Outcome → State → Prop} {pc : Nat} {L : Array Slot} {S : List Value} (h : At T m c below) (hx : p.tables.exec = Jvm.exec) {i : Fin 4} {v : Int64} (hd : decode c.code pc = .ok (.lload_n i, 1)) (hl : L[i.val]? = some (.val (.long v))) (G : own_Go p e below T (mkF m (pc + 1) L (.long v :: S)) Φ) : own_Go p e below T (mkF m pc L S) Φ := own_by (fun t k => XS.lloadN h hx rfl hd hl k) G
theorem own_s_lload {p : Program} {e : Env} {below : List Frame} {T : State} {m : MethodId} {c : Code} {Φ : Outcome → State → Prop} {pc : Nat} {L : Array Slot} {S : List Value} (h : At T m c below) (hx : p.tables.exec = Jvm.exec) {i : Nat} {v : Int64} (hd : decode c.code pc = .ok (.lload i, 2)) (hl : L[i]? = some (.val (.long v))) (G : own_Go p e below T (mkF m (pc + 2) L (.long v :: S)) Φ) : own_Go p e below T (mkF m pc L S) Φ := own_by (fun t k => XS.lload h hx rfl hd hl k) G
theorem own_s_aloadN {p : Program} {e : Env} {below : List Frame} {T : State} {m : MethodId} {c : Code} {Φ : Outcome → State → Prop} {pc : Nat} {L : Array Slot} {S : List Value} (h : At T m c below) (hx : p.tables.exec = Jvm.exec) {i : Fin 4} {v : Value} (hd : decode c.code pc = .ok (.aload_n i, 1)) (hl : L[i.val]? = some (.val v)) (hv : v.isRef = true) (G : own_Go p e below T (mkF m (pc + 1) L (v :: S)) Φ) : own_Go p e below T (mkF m pc L S) Φ := own_by (fun t k => XS.aloadN h hx rfl hd hl hv k) G
theorem own_s_aload {p : Program} {e : Env} {below : List Frame} {T : State} {m : MethodId} {c : Code} {Φ : Outcome → State → Prop} {pc : Nat} {L : Array Slot} {S : List Value} (h : At T m c below) (hx : p.tables.exec = Jvm.exec) {i : Nat} {v : Value} (hd : decode c.code pc = .ok (.aload i, 2)) (hl : L[i]? = some (.val v)) (hv : v.isRef = true) (G : own_Go p e below T (mkF m (pc + 2) L (v :: S)) Φ) : own_Go p e below T (mkF m pc L S) Φ := own_by (fun t k => XS.aload h hx rfl hd hl hv k) G
theorem own_s_istoreN {p : Program} {e : Env} {below : List Frame} {T : State} {m : MethodId} {c : Code} {Φ : Outcome → State → Prop} {pc : Nat} {L : Array Slot} {S : List Value} (h : At T m c below) (hx : p.tables.exec = Jvm.exec) {i : Fin 4} {v : Int32} (L' : Array Slot) (hd : decode c.code pc = .ok (.istore_n i, 1)) (hl : storeLocals L i.val (.int v) = some L') (G : own_Go p e below T (mkF m (pc + 1) L' S) Φ) : own_Go p e below T (mkF m pc L (.int v :: S)) Φ := own_by (fun t k => XS.istoreN h hx rfl hd rfl hl k) G
theorem own_s_istore {p : Program} {e : Env} {below : List Frame} {T : State} {m : MethodId} {c : Code} {Φ : Outcome → State → Prop} {pc : Nat} {L : Array Slot} {S : List Value} (h : At T m c below) (hx : p.tables.exec = Jvm.exec) {i : Nat} {v : Int32} (L' : Array Slot) (hd : decode c.code pc = .ok (.istore i, 2)) (hl : storeLocals L i (.int v) = some L') (G : own_Go p e below T (mkF m (pc + 2) L' S) Φ) : own_Go p e below T (mkF m pc L (.int v :: S)) Φ := own_by (fun t k => XS.istore h hx rfl hd rfl hl k) G
theorem own_s_lstoreN {p : Program} {e : Env} {below : List Frame} {T : State} {m : MethodId} {c : Code} {Φ : Outcome → State → Prop} {pc : Nat} {L : Array Slot} {S : List Value} (h : At T m c below) (hx : p.tables.exec = Jvm.exec) {i : Fin 4} {v : Int64} (L' : Array Slot) (hd : decode c.code pc = .ok (.lstore_n i, 1)) (hl : storeLocals L i.val (.long v) = some L') (G : own_Go p e below T (mkF m (pc + 1) L' S) Φ) : own_Go p e below T (mkF m pc L (.long v :: S)) Φ := own_by (fun t k => XS.lstoreN h hx rfl hd rfl hl k) G
theorem own_s_lstore {p : Program} {e : Env} {below : List Frame} {T : State} {m : MethodId} {c : Code} {Φ : Outcome → State → Prop} {pc : Nat} {L : Array Slot} {S : List Value} (h : At T m c below) (hx : p.tables.exec = Jvm.exec) {i : Nat} {v : Int64} (L' : Array Slot) (hd : decode c.code pc = .ok (.lstore i, 2)) (hl : storeLocals L i (.long v) = some L') (G : own_Go p e below T (mkF m (pc + 2) L' S) Φ) : own_Go p e below T (mkF m pc L (.long v :: S)) Φ := own_by (fun t k => XS.lstore h hx rfl hd rfl hl k) G
theorem own_s_astoreN {p : Program} {e : Env} {below : List Frame} {T : State} {m : MethodId} {c : Code} {Φ : Outcome → State → Prop} {pc : Nat} {L : Array Slot} {S : List Value} (h : At T m c below) (hx : p.tables.exec = Jvm.exec) {i : Fin 4} {v : Value} (L' : Array Slot) (hd : decode c.code pc = .ok (.astore_n i, 1)) (hv : v.isRef = true) (hl : storeLocals L i.val v = some L') (G : own_Go p e below T (mkF m (pc + 1) L' S) Φ) : own_Go p e below T (mkF m pc L (v :: S)) Φ := own_by (fun t k => XS.astoreN h hx rfl hd rfl hv hl k) G
theorem own_s_astore {p : Program} {e : Env} {below : List Frame} {T : State} {m : MethodId} {c : Code} {Φ : Outcome → State → Prop} {pc : Nat} {L : Array Slot} {S : List Value} (h : At T m c below) (hx : p.tables.exec = Jvm.exec) {i : Nat} {v : Value} (L' : Array Slot) (hd : decode c.code pc = .ok (.astore i, 2)) (hv : v.isRef = true) (hl : storeLocals L i v = some L') (G : own_Go p e below T (mkF m (pc + 2) L' S) Φ) : own_Go p e below T (mkF m pc L (v :: S)) Φ := own_by (fun t k => XS.astore h hx rfl hd rfl hv hl k) G
theorem own_s_iconst {p : Program} {e : Env} {below : List Frame} {T : State} {m : MethodId} {c : Code} {Φ : Outcome → State → Prop} {pc : Nat} {L : Array Slot} {S : List Value} (h : At T m c below) (hx : p.tables.exec = Jvm.exec) {i : Int} (v : Int32) (hd : decode c.code pc = .ok (.iconst i, 1)) (hv : Int32.ofInt i = v) (G : own_Go p e below T (mkF m (pc + 1) L (.int v :: S)) Φ) : own_Go p e below T (mkF m pc L S) Φ := own_by (fun t k => XS.iconst h hx rfl hd (by rw [hv]; exact k)) G
theorem own_s_bipush {p : Program} {e : Env} {below : List Frame} {T : State} {m : MethodId} {c : Code} {Φ : Outcome → State → Prop} {pc : Nat} {L : Array Slot} {S : List Value} (h : At T m c below) (hx : p.tables.exec = Jvm.exec) {i : Int} (v : Int32) (hd : decode c.code pc = .ok (.bipush i, 2)) (hv : (Int8.ofInt i).toInt32 = v) (G : own_Go p e below T (mkF m (pc + 2) L (.int v :: S)) Φ) : own_Go p e below T (mkF m pc L S) Φ := own_by (fun t k => XS.bipush h hx rfl hd (by rw [hv]; exact k)) G
theorem own_s_sipush {p : Program} {e : Env} {below : List Frame} {T : State} {m : MethodId} {c : Code} {Φ : Outcome → State → Prop} {pc : Nat} {L : Array Slot} {S : List Value} (h : At T m c below) (hx : p.tables.exec = Jvm.exec) {i : Int} (v : Int32) (hd : decode c.code pc = .ok (.sipush i, 3)) (hv : (Int16.ofInt i).toInt32 = v) (G : own_Go p e below T (mkF m (pc + 3) L (.int v :: S)) Φ) : own_Go p e below T (mkF m pc L S) Φ := own_by (fun t k => XS.sipush h hx rfl hd (by rw [hv]; exact k)) G
theorem own_s_lconst {p : Program} {e : Env} {below : List Frame} {T : State} {m : MethodId} {c : Code} {Φ : Outcome → State → Prop} {pc : Nat} {L : Array Slot} {S : List Value} (h : At T m c below) (hx : p.tables.exec = Jvm.exec) {i : Fin 2} (v : Int64) (hd : decode c.code pc = .ok (.lconst i, 1)) (hv : Int64.ofNat i = v) (G : own_Go p e below T (mkF m (pc + 1) L (.long v :: S)) Φ) : own_Go p e below T (mkF m pc L S) Φ := own_by (fun t k => XS.lconst h hx rfl hd (by rw [hv]; exact k)) G
theorem own_s_goto {p : Program} {e : Env} {below : List Frame} {T : State} {m : MethodId} {c : Code} {Φ : Outcome → State → Prop} {pc : Nat} {L : Array Slot} {S : List Value} (h : At T m c below) (hx : p.tables.exec = Jvm.exec) {o : Int} (pc' : Nat) (hd : decode c.code pc = .ok (.goto o, 3)) (ho : 0 ≤ (pc : Int) + o) (hp : ((pc : Int) + o).toNat = pc') (G : own_Go p e below T (mkF m pc' L S) Φ) : own_Go p e below T (mkF m pc L S) Φ := own_by (fun t k => XS.goto h hx rfl rfl hd ho hp k) G
theorem own_s_ifYes {p : Program} {e : Env} {below : List Frame} {T : State} {m : MethodId} {c : Code} {Φ : Outcome → State → Prop} {pc : Nat} {L : Array Slot} {S : List Value} (h : At T m c below) (hx : p.tables.exec = Jvm.exec) {cd : ClassFile.Cond} {x : Int32} {o : Int} (pc' : Nat) (hd : decode c.code pc = .ok (.ifCond cd o, 3)) (hc : ifCond.holds cd x = true) (ho : 0 ≤ (pc : Int) + o) (hp : ((pc : Int) + o).toNat = pc') (G : own_Go p e below T (mkF m pc' L S) Φ) : own_Go p e below T (mkF m pc L (.int x :: S)) Φ := own_by (fun t k => XS.ifYes h hx rfl rfl hd rfl hc ho hp k) G
theorem own_s_ifNo {p : Program} {e : Env} {below : List Frame} {T : State} {m : MethodId} {c : Code} {Φ : Outcome → State → Prop} {pc : Nat} {L : Array Slot} {S : List Value} (h : At T m c below) (hx : p.tables.exec = Jvm.exec) {cd : ClassFile.Cond} {x : Int32} {o : Int} (hd : decode c.code pc = .ok (.ifCond cd o, 3)) (hc : ifCond.holds cd x = false) (G : own_Go p e below T (mkF m (pc + 3) L S) Φ) : own_Go p e below T (mkF m pc L (.int x :: S)) Φ := own_by (fun t k => XS.ifNo h hx rfl hd rfl hc k) G
theorem own_s_icmpYes {p : Program} {e : Env} {below : List Frame} {T : State} {m : MethodId} {c : Code} {Φ : Outcome → State → Prop} {pc : Nat} {L : Array Slot} {S : List Value} (h : At T m c below) (hx : p.tables.exec = Jvm.exec) {cd : ClassFile.Cond} {x y : Int32} {o : Int} (pc' : Nat) (hd : decode c.code pc = .ok (.if_icmp cd o, 3)) (hc : if_icmp.holds cd x y = true) (ho : 0 ≤ (pc : Int) + o) (hp : ((pc : Int) + o).toNat = pc') (G : own_Go p e below T (mkF m pc' L S) Φ) : own_Go p e below T (mkF m pc L (.int y :: .int x :: S)) Φ := own_by (fun t k => XS.icmpYes h hx rfl rfl hd rfl hc ho hp k) G
theorem own_s_icmpNo {p : Program} {e : Env} {below : List Frame} {T : State} {m : MethodId} {c : Code} {Φ : Outcome → State → Prop} {pc : Nat} {L : Array Slot} {S : List Value} (h : At T m c below) (hx : p.tables.exec = Jvm.exec) {cd : ClassFile.Cond} {x y : Int32} {o : Int} (hd : decode c.code pc = .ok (.if_icmp cd o, 3)) (hc : if_icmp.holds cd x y = false) (G : own_Go p e below T (mkF m (pc + 3) L S) Φ) : own_Go p e below T (mkF m pc L (.int y :: .int x :: S)) Φ := own_by (fun t k => XS.icmpNo h hx rfl hd rfl hc k) G
theorem own_s_lcmp {p : Program} {e : Env} {below : List Frame} {T : State} {m : MethodId} {c : Code} {Φ : Outcome → State → Prop} {pc : Nat} {L : Array Slot} {S : List Value} (h : At T m c below) (hx : p.tables.exec = Jvm.exec) {x y : Int64} (hd : decode c.code pc = .ok (.lcmp, 1)) (G : own_Go p e below T (mkF m (pc + 1) L (.int (Jvm.Free.XT.cmpL x y) :: S)) Φ) : own_Go p e below T (mkF m pc L (.long y :: .long x :: S)) Φ := own_by (fun t k => Jvm.Free.XT.lcmp h hx rfl hd rfl k) G
theorem own_s_dup {p : Program} {e : Env} {below : List Frame} {T : State} {m : MethodId} {c : Code} {Φ : Outcome → State → Prop} {pc : Nat} {L : Array Slot} {S : List Value} (h : At T m c below) (hx : p.tables.exec = Jvm.exec) {x : Value} (hd : decode c.code pc = .ok (.dup, 1)) (hc : x.category = 1) (G : own_Go p e below T (mkF m (pc + 1) L (x :: x :: S)) Φ) : own_Go p e below T (mkF m pc L (x :: S)) Φ := own_by (fun t k => XS.dup h hx rfl hd rfl hc k) G
theorem own_s_pop {p : Program} {e : Env} {below : List Frame} {T : State} {m : MethodId} {c : Code} {Φ : Outcome → State → Prop} {pc : Nat} {L : Array Slot} {S : List Value} (h : At T m c below) (hx : p.tables.exec = Jvm.exec) {x : Value} (hd : decode c.code pc = .ok (.pop, 1)) (hc : x.category = 1) (G : own_Go p e below T (mkF m (pc + 1) L S) Φ) : own_Go p e below T (mkF m pc L (x :: S)) Φ := own_by (fun t k => XS.pop h hx rfl hd rfl hc k) G

def own_g (f s : Int32) : Int32 := (if (f - (44032 : Int32)) < 0 then (-1 : Int32) else (if (f - (44032 : Int32)) < (11172 : Int32) then (if ((f - (44032 : Int32)) % (28 : Int32)) = 0 then (if 0 < (s - (4519 : Int32)) then (if (s - (4519 : Int32)) < (28 : Int32) then (f + (s - (4519 : Int32))) else (-1 : Int32)) else (-1 : Int32)) else (-1 : Int32)) else (-1 : Int32)))
def own_f1 (f s : Int32) : Int32 := (if (f - (4352 : Int32)) < 0 then own_g f s else (if (f - (4352 : Int32)) < (19 : Int32) then (if (s - (4449 : Int32)) < 0 then own_g f s else (if (s - (4449 : Int32)) < (21 : Int32) then ((44032 : Int32) + ((((f - (4352 : Int32)) * (21 : Int32)) + (s - (4449 : Int32))) * (28 : Int32))) else own_g f s)) else own_g f s))
theorem own_sub (a b : Int32) : ((a - b).toInt = a.toInt - b.toInt ∨ (a - b).toInt = a.toInt - b.toInt + 4294967296 ∨ (a - b).toInt = a.toInt - b.toInt - 4294967296) ∧ -2147483648 ≤ (a - b).toInt ∧ (a - b).toInt < 2147483648 := by
  have h1 := (a - b).toInt_lt; have h2 := (a - b).le_toInt
  have h3 := a.toInt_lt; have h4 := a.le_toInt; have h5 := b.toInt_lt; have h6 := b.le_toInt
  have h7 := Int32.toInt_sub a b
  rw [Int.bmod_def] at h7
  omega
theorem own_d1_0 : decode prog_66_method_6_code 0 = .ok (.iload_n 0, 1) := by decide +kernel
theorem own_d1_1 : decode prog_66_method_6_code 1 = .ok (.sipush 4352, 3) := by decide +kernel
theorem own_d1_4 : decode prog_66_method_6_code 4 = .ok (.isub, 1) := by decide +kernel
theorem own_d1_5 : decode prog_66_method_6_code 5 = .ok (.istore_n 2, 1) := by decide +kernel
theorem own_d1_6 : decode prog_66_method_6_code 6 = .ok (.iload_n 1, 1) := by decide +kernel
theorem own_d1_7 : decode prog_66_method_6_code 7 = .ok (.sipush 4449, 3) := by decide +kernel
theorem own_d1_10 : decode prog_66_method_6_code 10 = .ok (.isub, 1) := by decide +kernel
theorem own_d1_11 : decode prog_66_method_6_code 11 = .ok (.istore_n 3, 1) := by decide +kernel
theorem own_d1_12 : decode prog_66_method_6_code 12 = .ok (.iload_n 2, 1) := by decide +kernel
theorem own_d1_13 : decode prog_66_method_6_code 13 = .ok (.ifCond .lt 32, 3) := by decide +kernel
theorem own_d1_16 : decode prog_66_method_6_code 16 = .ok (.iload_n 2, 1) := by decide +kernel
theorem own_d1_17 : decode prog_66_method_6_code 17 = .ok (.bipush 19, 2) := by decide +kernel
theorem own_d1_19 : decode prog_66_method_6_code 19 = .ok (.if_icmp .ge 26, 3) := by decide +kernel
theorem own_d1_22 : decode prog_66_method_6_code 22 = .ok (.iload_n 3, 1) := by decide +kernel
theorem own_d1_23 : decode prog_66_method_6_code 23 = .ok (.ifCond .lt 22, 3) := by decide +kernel
theorem own_d1_26 : decode prog_66_method_6_code 26 = .ok (.iload_n 3, 1) := by decide +kernel
theorem own_d1_27 : decode prog_66_method_6_code 27 = .ok (.bipush 21, 2) := by decide +kernel
theorem own_d1_29 : decode prog_66_method_6_code 29 = .ok (.if_icmp .ge 16, 3) := by decide +kernel
theorem own_d1_32 : decode prog_66_method_6_code 32 = .ok (.ldc 9, 2) := by decide +kernel
theorem own_d1_34 : decode prog_66_method_6_code 34 = .ok (.iload_n 2, 1) := by decide +kernel
theorem own_d1_35 : decode prog_66_method_6_code 35 = .ok (.bipush 21, 2) := by decide +kernel
theorem own_d1_37 : decode prog_66_method_6_code 37 = .ok (.imul, 1) := by decide +kernel
theorem own_d1_38 : decode prog_66_method_6_code 38 = .ok (.iload_n 3, 1) := by decide +kernel
theorem own_d1_39 : decode prog_66_method_6_code 39 = .ok (.iadd, 1) := by decide +kernel
theorem own_d1_40 : decode prog_66_method_6_code 40 = .ok (.bipush 28, 2) := by decide +kernel
theorem own_d1_42 : decode prog_66_method_6_code 42 = .ok (.imul, 1) := by decide +kernel
theorem own_d1_43 : decode prog_66_method_6_code 43 = .ok (.iadd, 1) := by decide +kernel
theorem own_d1_44 : decode prog_66_method_6_code 44 = .ok (.ireturn, 1) := by decide +kernel
theorem own_d1_45 : decode prog_66_method_6_code 45 = .ok (.iload_n 0, 1) := by decide +kernel
theorem own_d1_46 : decode prog_66_method_6_code 46 = .ok (.ldc 9, 2) := by decide +kernel
theorem own_d1_48 : decode prog_66_method_6_code 48 = .ok (.isub, 1) := by decide +kernel
theorem own_d1_49 : decode prog_66_method_6_code 49 = .ok (.istore 4, 2) := by decide +kernel
theorem own_d1_51 : decode prog_66_method_6_code 51 = .ok (.iload_n 1, 1) := by decide +kernel
theorem own_d1_52 : decode prog_66_method_6_code 52 = .ok (.sipush 4519, 3) := by decide +kernel
theorem own_d1_55 : decode prog_66_method_6_code 55 = .ok (.isub, 1) := by decide +kernel
theorem own_d1_56 : decode prog_66_method_6_code 56 = .ok (.istore 5, 2) := by decide +kernel
theorem own_d1_58 : decode prog_66_method_6_code 58 = .ok (.iload 4, 2) := by decide +kernel
theorem own_d1_60 : decode prog_66_method_6_code 60 = .ok (.ifCond .lt 36, 3) := by decide +kernel
theorem own_d1_63 : decode prog_66_method_6_code 63 = .ok (.iload 4, 2) := by decide +kernel
theorem own_d1_65 : decode prog_66_method_6_code 65 = .ok (.sipush 11172, 3) := by decide +kernel
theorem own_d1_68 : decode prog_66_method_6_code 68 = .ok (.if_icmp .ge 28, 3) := by decide +kernel
theorem own_d1_71 : decode prog_66_method_6_code 71 = .ok (.iload 4, 2) := by decide +kernel
theorem own_d1_73 : decode prog_66_method_6_code 73 = .ok (.bipush 28, 2) := by decide +kernel
theorem own_d1_75 : decode prog_66_method_6_code 75 = .ok (.irem, 1) := by decide +kernel
theorem own_d1_76 : decode prog_66_method_6_code 76 = .ok (.ifCond .ne 20, 3) := by decide +kernel
theorem own_d1_79 : decode prog_66_method_6_code 79 = .ok (.iload 5, 2) := by decide +kernel
theorem own_d1_81 : decode prog_66_method_6_code 81 = .ok (.ifCond .le 15, 3) := by decide +kernel
theorem own_d1_84 : decode prog_66_method_6_code 84 = .ok (.iload 5, 2) := by decide +kernel
theorem own_d1_86 : decode prog_66_method_6_code 86 = .ok (.bipush 28, 2) := by decide +kernel
theorem own_d1_88 : decode prog_66_method_6_code 88 = .ok (.if_icmp .ge 8, 3) := by decide +kernel
theorem own_d1_91 : decode prog_66_method_6_code 91 = .ok (.iload_n 0, 1) := by decide +kernel
theorem own_d1_92 : decode prog_66_method_6_code 92 = .ok (.iload 5, 2) := by decide +kernel
theorem own_d1_94 : decode prog_66_method_6_code 94 = .ok (.iadd, 1) := by decide +kernel
theorem own_d1_95 : decode prog_66_method_6_code 95 = .ok (.ireturn, 1) := by decide +kernel
theorem own_d1_96 : decode prog_66_method_6_code 96 = .ok (.iconst (-1), 1) := by decide +kernel
theorem own_d1_97 : decode prog_66_method_6_code 97 = .ok (.ireturn, 1) := by decide +kernel
theorem own_pn_Hangul : plainName "com/example/pvalid/pvalid/unicode/Hangul" = true := by first | (simp [plainName, overriddenIn]; done) | decide +kernel
set_option maxRecDepth 65536 in
set_option maxHeartbeats 40000000 in
theorem own_p1_45 {p : Program} {l : Launch} {e : Env} {s : State} {m : MethodId} {args : Array Value} {below : List Frame} {meth : Method} {c : Code} {Z : State} {a0 : Array Value} {n0 : Nat} (hx : p.tables.exec = Jvm.exec) (hZ : Z.Warmed39 s.vm) (hw : ∀ d ∈ tables_1, d.before a0 Z = true) (hby : c.code = prog_66_method_6_code) (hml : c.maxLocals = 6) (hown : s.vm.findClass "com/example/pvalid/pvalid/unicode/Hangul" = some m.cls) (hnm : meth.name = "compose") (hret : meth.sig.returnType = (some .int)) (hlk : meth.locks = false) (f s0 l0 v0 : Int32) {T0 : State} {locs : List Loc} {h0 : Heap} (X0 : Stand p l e ({ frames := 0, cells := 0, slots := 0, locals := 0 } : Room) s m args below meth c T0 locs 0 0) (e0 : T0.heap = h0) (N0 : Fr n0 locs) (Z0 : n0 ≤ h0.size) :
    own_Go p e below T0 (mkF m 45 #[.val (.int f), .val (.int s0), .val (.int l0), .val (.int v0), .unset, .unset] []) (own_Fin s (fun (v : Option Value) (h : Heap) (L : List Loc) => v = some (.int (own_g f s0)) ∧ Fr n0 L ∧ h = h0) 0 0) := by
  show own_Go p e below T0 (mkF m 45 #[.val (.int f), .val (.int s0), .val (.int l0), .val (.int v0), .unset, .unset] []) _
  refine own_s_iloadN X0.here hx (hb hby own_d1_45) rfl ?_
  refine own_by (fun t k => X0.ldcInt hx hown (mvT hZ (hw _ (List.mem_of_getElem? (i := 6) rfl))) (g := (mkF m 46 #[.val (.int f), .val (.int s0), .val (.int l0), .val (.int v0), .unset, .unset] [(.int f)])) rfl (hb hby own_d1_46) t k) ?_
  show own_Go p e below T0 (mkF m 48 #[.val (.int f), .val (.int s0), .val (.int l0), .val (.int v0), .unset, .unset] [(.int (44032 : Int32)), (.int f)]) _
  refine own_s_isub X0.here hx (hb hby own_d1_48) ?_
  refine own_s_istore X0.here hx #[.val (.int f), .val (.int s0), .val (.int l0), .val (.int v0), .val (.int (f - (44032 : Int32))), .unset] (hb hby own_d1_49) rfl ?_
  refine own_s_iloadN X0.here hx (hb hby own_d1_51) rfl ?_
  refine own_s_sipush X0.here hx (4519 : Int32) (hb hby own_d1_52) rfl ?_
  refine own_s_isub X0.here hx (hb hby own_d1_55) ?_
  refine own_s_istore X0.here hx #[.val (.int f), .val (.int s0), .val (.int l0), .val (.int v0), .val (.int (f - (44032 : Int32))), .val (.int (s0 - (4519 : Int32)))] (hb hby own_d1_56) rfl ?_
  refine own_s_iload X0.here hx (hb hby own_d1_58) rfl ?_
  by_cases hc60 : (f - (44032 : Int32)) < 0
  ·
    show own_Go p e below T0 (mkF m 60 #[.val (.int f), .val (.int s0), .val (.int l0), .val (.int v0), .val (.int (f - (44032 : Int32))), .val (.int (s0 - (4519 : Int32)))] [(.int (f - (44032 : Int32)))]) _
    refine own_s_ifYes X0.here hx 96 (hb hby own_d1_60) (Jvm.Free.XT.i0_lt_t hc60) (by decide) (by decide) ?_
    refine own_s_iconst X0.here hx (-1 : Int32) (hb hby own_d1_96) rfl ?_
    refine own_retI X0 hx hret hlk (hb hby own_d1_97) (by decide) (by decide) ?_
    exact ⟨by unfold own_g; rw [if_pos hc60], N0, e0⟩
  ·
    refine own_s_ifNo X0.here hx (hb hby own_d1_60) (Jvm.Free.XT.i0_lt_f hc60) ?_
    refine own_s_iload X0.here hx (hb hby own_d1_63) rfl ?_
    refine own_s_sipush X0.here hx (11172 : Int32) (hb hby own_d1_65) rfl ?_
    by_cases hc68 : (f - (44032 : Int32)) < (11172 : Int32)
    ·
      refine own_s_icmpNo X0.here hx (hb hby own_d1_68) (Jvm.Free.XT.ii_ge_f hc68) ?_
      refine own_s_iload X0.here hx (hb hby own_d1_71) rfl ?_
      show own_Go p e below T0 (mkF m 73 #[.val (.int f), .val (.int s0), .val (.int l0), .val (.int v0), .val (.int (f - (44032 : Int32))), .val (.int (s0 - (4519 : Int32)))] [(.int (f - (44032 : Int32)))]) _
      refine own_s_bipush X0.here hx (28 : Int32) (hb hby own_d1_73) rfl ?_
      refine own_by (fun t k => iremM X0 hx rfl (hb hby own_d1_75) rfl (by decide) k) ?_
      show own_Go p e below T0 (mkF m 76 #[.val (.int f), .val (.int s0), .val (.int l0), .val (.int v0), .val (.int (f - (44032 : Int32))), .val (.int (s0 - (4519 : Int32)))] [(.int ((f - (44032 : Int32)) % (28 : Int32)))]) _
      by_cases hc76 : ((f - (44032 : Int32)) % (28 : Int32)) = 0
      ·
        refine own_s_ifNo X0.here hx (hb hby own_d1_76) (Jvm.Free.XT.i0_ne_f hc76) ?_
        refine own_s_iload X0.here hx (hb hby own_d1_79) rfl ?_
        by_cases hc81 : 0 < (s0 - (4519 : Int32))
        ·
          refine own_s_ifNo X0.here hx (hb hby own_d1_81) (Jvm.Free.XT.i0_le_f hc81) ?_
          refine own_s_iload X0.here hx (hb hby own_d1_84) rfl ?_
          refine own_s_bipush X0.here hx (28 : Int32) (hb hby own_d1_86) rfl ?_
          by_cases hc88 : (s0 - (4519 : Int32)) < (28 : Int32)
          ·
            refine own_s_icmpNo X0.here hx (hb hby own_d1_88) (Jvm.Free.XT.ii_ge_f hc88) ?_
            refine own_s_iloadN X0.here hx (hb hby own_d1_91) rfl ?_
            refine own_s_iload X0.here hx (hb hby own_d1_92) rfl ?_
            refine own_s_iadd X0.here hx (hb hby own_d1_94) ?_
            refine own_retI X0 hx hret hlk (hb hby own_d1_95) (by decide) (by decide) ?_
            exact ⟨by unfold own_g; rw [if_neg hc60, if_pos hc68, if_pos hc76, if_pos hc81, if_pos hc88], N0, e0⟩
          ·
            show own_Go p e below T0 (mkF m 88 #[.val (.int f), .val (.int s0), .val (.int l0), .val (.int v0), .val (.int (f - (44032 : Int32))), .val (.int (s0 - (4519 : Int32)))] [(.int (28 : Int32)), (.int (s0 - (4519 : Int32)))]) _
            refine own_s_icmpYes X0.here hx 96 (hb hby own_d1_88) (Jvm.Free.XT.ii_ge_t hc88) (by decide) (by decide) ?_
            refine own_s_iconst X0.here hx (-1 : Int32) (hb hby own_d1_96) rfl ?_
            refine own_retI X0 hx hret hlk (hb hby own_d1_97) (by decide) (by decide) ?_
            exact ⟨by unfold own_g; rw [if_neg hc60, if_pos hc68, if_pos hc76, if_pos hc81, if_neg hc88], N0, e0⟩
        ·
          show own_Go p e below T0 (mkF m 81 #[.val (.int f), .val (.int s0), .val (.int l0), .val (.int v0), .val (.int (f - (44032 : Int32))), .val (.int (s0 - (4519 : Int32)))] [(.int (s0 - (4519 : Int32)))]) _
          refine own_s_ifYes X0.here hx 96 (hb hby own_d1_81) (Jvm.Free.XT.i0_le_t hc81) (by decide) (by decide) ?_
          refine own_s_iconst X0.here hx (-1 : Int32) (hb hby own_d1_96) rfl ?_
          refine own_retI X0 hx hret hlk (hb hby own_d1_97) (by decide) (by decide) ?_
          exact ⟨by unfold own_g; rw [if_neg hc60, if_pos hc68, if_pos hc76, if_neg hc81], N0, e0⟩
      ·
        refine own_s_ifYes X0.here hx 96 (hb hby own_d1_76) (Jvm.Free.XT.i0_ne_t hc76) (by decide) (by decide) ?_
        refine own_s_iconst X0.here hx (-1 : Int32) (hb hby own_d1_96) rfl ?_
        refine own_retI X0 hx hret hlk (hb hby own_d1_97) (by decide) (by decide) ?_
        exact ⟨by unfold own_g; rw [if_neg hc60, if_pos hc68, if_neg hc76], N0, e0⟩
    ·
      show own_Go p e below T0 (mkF m 68 #[.val (.int f), .val (.int s0), .val (.int l0), .val (.int v0), .val (.int (f - (44032 : Int32))), .val (.int (s0 - (4519 : Int32)))] [(.int (11172 : Int32)), (.int (f - (44032 : Int32)))]) _
      refine own_s_icmpYes X0.here hx 96 (hb hby own_d1_68) (Jvm.Free.XT.ii_ge_t hc68) (by decide) (by decide) ?_
      refine own_s_iconst X0.here hx (-1 : Int32) (hb hby own_d1_96) rfl ?_
      refine own_retI X0 hx hret hlk (hb hby own_d1_97) (by decide) (by decide) ?_
      exact ⟨by unfold own_g; rw [if_neg hc60, if_neg hc68], N0, e0⟩
theorem own_ef1 (m : MethodId) (f : Int32) (s0 : Int32) : entryFrame m #[(.int f), (.int s0)] 6 = mkF m 0 #[.val (.int f), .val (.int s0), .unset, .unset, .unset, .unset] [] := by first | (simp [entryFrame, mkF, argsToLocals, Value.category]; done) | rfl
def own_q_own_r1 (Z : State) (f : Int32) (s0 : Int32) (h0 : Heap) (n0 : Nat) (v : Option Value) (h : Heap) (L : List Loc) : Prop := v = some (.int (own_f1 f s0)) ∧ Fr n0 L ∧ h = h0
set_option maxRecDepth 65536 in
set_option maxHeartbeats 40000000 in
theorem own_r1 (l : Launch) (Z : State) (a0 : Array Value) (hw : ∀ d ∈ tables_1, d.before a0 Z = true) (ws : List Jvm.Cond) (f : Int32) (s0 : Int32) (h0 : Heap) (n0 : Nat) (Z0 : n0 ≤ h0.size) :
    MetFree l (⟨"com/example/pvalid/pvalid/unicode/Hangul", "compose", "(II)I"⟩ : MethodName) (head1 (Jvm.Cond.code (⟨"com/example/pvalid/pvalid/unicode/Hangul", "compose", "(II)I"⟩ : MethodName) prog_66_method_6_code 6 (some .int) :: ws) ({ frames := 0, cells := 0, slots := 0, locals := 0 } : Room)) (fun a U => a = #[(.int f), (.int s0)] ∧ Z.Warmed39 U.vm ∧ U.heap = h0) (fun _ _ _ _ _ => True) (fun _ U o U' => ∃ v L, o = .returned v ∧ own_q_own_r1 Z f s0 h0 n0 v U'.heap L ∧ FrameEnd U o U' L ({ frames := 0, cells := 0, slots := 0, locals := 0 } : Room).cells ({ frames := 0, cells := 0, slots := 0, locals := 0 } : Room).slots) := by
  refine MetFree.of_bodySF (plainFor_of_name own_pn_Hangul) hisR ?_
  intro p e s m args below meth c T0 Bd hml0 hP hK
  obtain ⟨rfl, hZ, hh⟩ := hP
  have hx := Bd.exec
  have hby := Bd.bytes
  have hml : c.maxLocals = 6 := hml0
  have hown : s.vm.findClass "com/example/pvalid/pvalid/unicode/Hangul" = some m.cls := findClass_of_methodNamed Bd.named
  have hnm := (name_of_methodNamed Bd.named Bd.method).1
  have hret : meth.sig.returnType = (some .int) := Bd.returns
  have hlk : meth.locks = false := BodyLoose.notSynchronized Bd
  have X0 : Stand p l e ({ frames := 0, cells := 0, slots := 0, locals := 0 } : Room) s m #[(.int f), (.int s0)] below meth c T0 [] 0 0 := Stand.of_body Bd
  have e0 : T0.heap = h0 := by rw [← hh, Bd.state]; rfl
  have N0 := Fr.nil n0
  refine own_start (own_ef1 m f s0) (Q := fun (v : Option Value) (h : Heap) (L : List Loc) => v = some (.int (own_f1 f s0)) ∧ Fr n0 L ∧ h = h0) (k := 0) (j := 0) ?_
  show own_Go p e below T0 (mkF m 0 #[.val (.int f), .val (.int s0), .unset, .unset, .unset, .unset] []) _
  refine own_s_iloadN X0.here hx (hb hby own_d1_0) rfl ?_
  refine own_s_sipush X0.here hx (4352 : Int32) (hb hby own_d1_1) rfl ?_
  refine own_s_isub X0.here hx (hb hby own_d1_4) ?_
  refine own_s_istoreN X0.here hx #[.val (.int f), .val (.int s0), .val (.int (f - (4352 : Int32))), .unset, .unset, .unset] (hb hby own_d1_5) rfl ?_
  refine own_s_iloadN X0.here hx (hb hby own_d1_6) rfl ?_
  refine own_s_sipush X0.here hx (4449 : Int32) (hb hby own_d1_7) rfl ?_
  refine own_s_isub X0.here hx (hb hby own_d1_10) ?_
  refine own_s_istoreN X0.here hx #[.val (.int f), .val (.int s0), .val (.int (f - (4352 : Int32))), .val (.int (s0 - (4449 : Int32))), .unset, .unset] (hb hby own_d1_11) rfl ?_
  refine own_s_iloadN X0.here hx (hb hby own_d1_12) rfl ?_
  by_cases hc13 : (f - (4352 : Int32)) < 0
  ·
    show own_Go p e below T0 (mkF m 13 #[.val (.int f), .val (.int s0), .val (.int (f - (4352 : Int32))), .val (.int (s0 - (4449 : Int32))), .unset, .unset] [(.int (f - (4352 : Int32)))]) _
    refine own_s_ifYes X0.here hx 45 (hb hby own_d1_13) (Jvm.Free.XT.i0_lt_t hc13) (by decide) (by decide) ?_
    have own_e : own_f1 f s0 = own_g f s0 := by unfold own_f1; rw [if_pos hc13]
    rw [own_e]
    exact own_p1_45 hx hZ hw hby hml hown hnm hret hlk  f s0 _ _ X0 e0 N0 Z0 
  ·
    refine own_s_ifNo X0.here hx (hb hby own_d1_13) (Jvm.Free.XT.i0_lt_f hc13) ?_
    refine own_s_iloadN X0.here hx (hb hby own_d1_16) rfl ?_
    refine own_s_bipush X0.here hx (19 : Int32) (hb hby own_d1_17) rfl ?_
    show own_Go p e below T0 (mkF m 19 #[.val (.int f), .val (.int s0), .val (.int (f - (4352 : Int32))), .val (.int (s0 - (4449 : Int32))), .unset, .unset] [(.int (19 : Int32)), (.int (f - (4352 : Int32)))]) _
    by_cases hc19 : (f - (4352 : Int32)) < (19 : Int32)
    ·
      refine own_s_icmpNo X0.here hx (hb hby own_d1_19) (Jvm.Free.XT.ii_ge_f hc19) ?_
      refine own_s_iloadN X0.here hx (hb hby own_d1_22) rfl ?_
      by_cases hc23 : (s0 - (4449 : Int32)) < 0
      ·
        show own_Go p e below T0 (mkF m 23 #[.val (.int f), .val (.int s0), .val (.int (f - (4352 : Int32))), .val (.int (s0 - (4449 : Int32))), .unset, .unset] [(.int (s0 - (4449 : Int32)))]) _
        refine own_s_ifYes X0.here hx 45 (hb hby own_d1_23) (Jvm.Free.XT.i0_lt_t hc23) (by decide) (by decide) ?_
        have own_e : own_f1 f s0 = own_g f s0 := by unfold own_f1; rw [if_neg hc13, if_pos hc19, if_pos hc23]
        rw [own_e]
        exact own_p1_45 hx hZ hw hby hml hown hnm hret hlk  f s0 _ _ X0 e0 N0 Z0 
      ·
        refine own_s_ifNo X0.here hx (hb hby own_d1_23) (Jvm.Free.XT.i0_lt_f hc23) ?_
        refine own_s_iloadN X0.here hx (hb hby own_d1_26) rfl ?_
        refine own_s_bipush X0.here hx (21 : Int32) (hb hby own_d1_27) rfl ?_
        by_cases hc29 : (s0 - (4449 : Int32)) < (21 : Int32)
        ·
          refine own_s_icmpNo X0.here hx (hb hby own_d1_29) (Jvm.Free.XT.ii_ge_f hc29) ?_
          refine own_by (fun t k => X0.ldcInt hx hown (mvT hZ (hw _ (List.mem_of_getElem? (i := 6) rfl))) (g := (mkF m 32 #[.val (.int f), .val (.int s0), .val (.int (f - (4352 : Int32))), .val (.int (s0 - (4449 : Int32))), .unset, .unset] [])) rfl (hb hby own_d1_32) t k) ?_
          show own_Go p e below T0 (mkF m 34 #[.val (.int f), .val (.int s0), .val (.int (f - (4352 : Int32))), .val (.int (s0 - (4449 : Int32))), .unset, .unset] [(.int (44032 : Int32))]) _
          refine own_s_iloadN X0.here hx (hb hby own_d1_34) rfl ?_
          refine own_s_bipush X0.here hx (21 : Int32) (hb hby own_d1_35) rfl ?_
          refine own_s_imul X0.here hx (hb hby own_d1_37) ?_
          refine own_s_iloadN X0.here hx (hb hby own_d1_38) rfl ?_
          refine own_s_iadd X0.here hx (hb hby own_d1_39) ?_
          refine own_s_bipush X0.here hx (28 : Int32) (hb hby own_d1_40) rfl ?_
          refine own_s_imul X0.here hx (hb hby own_d1_42) ?_
          refine own_s_iadd X0.here hx (hb hby own_d1_43) ?_
          refine own_retI X0 hx hret hlk (hb hby own_d1_44) (by decide) (by decide) ?_
          exact ⟨by unfold own_f1; rw [if_neg hc13, if_pos hc19, if_neg hc23, if_pos hc29], N0, e0⟩
        ·
          show own_Go p e below T0 (mkF m 29 #[.val (.int f), .val (.int s0), .val (.int (f - (4352 : Int32))), .val (.int (s0 - (4449 : Int32))), .unset, .unset] [(.int (21 : Int32)), (.int (s0 - (4449 : Int32)))]) _
          refine own_s_icmpYes X0.here hx 45 (hb hby own_d1_29) (Jvm.Free.XT.ii_ge_t hc29) (by decide) (by decide) ?_
          have own_e : own_f1 f s0 = own_g f s0 := by unfold own_f1; rw [if_neg hc13, if_pos hc19, if_neg hc23, if_neg hc29]
          rw [own_e]
          exact own_p1_45 hx hZ hw hby hml hown hnm hret hlk  f s0 _ _ X0 e0 N0 Z0 
    ·
      refine own_s_icmpYes X0.here hx 45 (hb hby own_d1_19) (Jvm.Free.XT.ii_ge_t hc19) (by decide) (by decide) ?_
      have own_e : own_f1 f s0 = own_g f s0 := by unfold own_f1; rw [if_neg hc13, if_neg hc19]
      rw [own_e]
      exact own_p1_45 hx hZ hw hby hml hown hnm hret hlk  f s0 _ _ X0 e0 N0 Z0 
theorem own_pn_HangulComposePinLaw : plainName "com/example/pvalid/pvalid/unicode/HangulComposePinLaw" = true := by first | (simp [plainName, overriddenIn]; done) | decide +kernel
theorem own_pd_0 : parseMethodDescriptor "(II)I" = some ⟨[.int, .int], some .int⟩ := by decide +kernel
set_option maxRecDepth 65536 in
set_option maxHeartbeats 40000000 in
theorem own_p190 {p : Program} {l : Launch} {e : Env} {s : State} {m : MethodId} {args : Array Value} {below : List Frame} {meth : Method} {c : Code} {Z : State} {a0 : Array Value} {n0 : Nat} (hx : p.tables.exec = Jvm.exec) (hZ : Z.Warmed39 s.vm) (hw : ∀ d ∈ tables_1, d.before a0 Z = true) (hby : c.code = code) (hml : c.maxLocals = 6) (hown : s.vm.findClass "com/example/pvalid/pvalid/unicode/HangulComposePinLaw" = some m.cls) (hnm : meth.name = "law") (hret : meth.sig.returnType = (some .boolean)) (hlk : meth.locks = false) (m0 x0 y0 f s0 : Int32) (ev1 : Int32) {T0 : State} {locs : List Loc} {h0 : Heap} (X0 : Stand p l e room_1 s m args below meth c T0 locs 0 0) (e0 : T0.heap = h0) (N0 : Fr n0 locs) (Z0 : n0 ≤ h0.size) (hE : own_f1 f s0 = ev1) :
    own_Go p e below T0 (mkF m 190 #[.val (.int m0), .val (.int x0), .val (.int y0), .val (.int f), .val (.int s0), .val (.int ev1)] []) (own_Fin s (fun (v : Option Value) (h : Heap) (L : List Loc) => v = some (.int 1) ∧ Fr n0 L) 0 0) := by
  show own_Go p e below T0 (mkF m 190 #[.val (.int m0), .val (.int x0), .val (.int y0), .val (.int f), .val (.int s0), .val (.int ev1)] []) _
  refine own_s_iloadN X0.here hx (hb hby at_190) rfl ?_
  refine own_s_iload X0.here hx (hb hby at_191) rfl ?_
  obtain ⟨_, _, ⟨T1, L1, k1, n1⟩, -, X1, ⟨Lc1, hQ1, l1, y1, z1⟩, st1⟩ := Jvm.LawKit.callS X0 hx (y := (⟨"com/example/pvalid/pvalid/unicode/Hangul", "compose", "(II)I"⟩ : MethodName)) hown (mvT hZ (hw _ (List.mem_of_getElem? (i := 2) rfl))) (mvT hZ (hw _ (List.mem_of_getElem? (i := 3) rfl))) (mvT hZ (hw _ (List.mem_of_getElem? (i := 4) rfl))) (mvT hZ (hw _ (List.mem_of_getElem? (i := 5) rfl))) (by decide) (backOf (W := 0) (own_r1 l Z a0 hw [] f s0  h0 n0 Z0 ) hZ (hw _ (List.mem_of_getElem? (i := 5) rfl)) (hw _ (List.mem_of_getElem? (i := 4) rfl)) (by decide) (by decide)) (g := (mkF m 193 #[.val (.int m0), .val (.int x0), .val (.int y0), .val (.int f), .val (.int s0), .val (.int ev1)] [(.int s0), (.int f)])) rfl (by rw [hml]; rfl) (argsL := [(.int f), (.int s0)]) (rest := []) (lenOf own_pd_0 rfl) rfl (by show 2 * 0 + _ ≤ _; exact Nat.le_of_eq rfl) (hb hby at_193) (fun _ _ => ⟨rfl, e0, (by decide : 0 + 0 ≤ _), (by decide : 0 + 0 ≤ _)⟩)
  dsimp only [Pt.U, Pt.locs, Pt.cells, Pt.slots] at X1 l1 y1 z1 st1 hQ1
  subst l1 y1 z1
  obtain ⟨rfl, N1q, e1⟩ := hQ1
  have N1 := Fr.app N0 N1q
  refine own_by st1 ?_
  show own_Go p e below T1 (mkF m 196 #[.val (.int m0), .val (.int x0), .val (.int y0), .val (.int f), .val (.int s0), .val (.int ev1)] [(.int (own_f1 f s0))]) _
  refine own_s_iload X1.here hx (hb hby at_196) rfl ?_
  refine own_s_icmpNo X1.here hx (hb hby at_198) (Jvm.Free.XT.ii_ne_f hE) ?_
  refine own_s_iconst X1.here hx (1 : Int32) (hb hby at_201) rfl ?_
  show own_Go p e below T1 (mkF m 202 #[.val (.int m0), .val (.int x0), .val (.int y0), .val (.int f), .val (.int s0), .val (.int ev1)] [(.int (1 : Int32))]) _
  refine own_s_goto X1.here hx 206 (hb hby at_202) (by decide) (by decide) ?_
  refine own_retZ X1 hx hret hlk (hb hby at_206) rfl (by decide) (by decide) ?_
  exact ⟨rfl, N1⟩
theorem own_x2 (f s0 : Int32) (hc145 : f < (44032 : Int32)) : own_g f s0 = (-1 : Int32) := by
  have b1 := f.toInt_lt; have b2 := f.le_toInt; have b3 := s0.toInt_lt; have b4 := s0.le_toInt
  have d1 := own_sub f (4352 : Int32); have d2 := own_sub s0 (4449 : Int32); have d3 := own_sub f (44032 : Int32); have d4 := own_sub s0 (4519 : Int32)
  simp only [Int32.lt_iff_toInt_lt, Int32.reduceToInt] at *
  unfold own_g
  simp only [Int32.lt_iff_toInt_lt, Int32.reduceToInt] at *
  repeat' split
  all_goals first | rfl | (exfalso; first | omega | contradiction)
theorem own_x3 (f s0 : Int32) (hc145 : ¬ (f < (44032 : Int32))) (hc151 : (55203 : Int32) < f) : own_g f s0 = (-1 : Int32) := by
  have b1 := f.toInt_lt; have b2 := f.le_toInt; have b3 := s0.toInt_lt; have b4 := s0.le_toInt
  have d1 := own_sub f (4352 : Int32); have d2 := own_sub s0 (4449 : Int32); have d3 := own_sub f (44032 : Int32); have d4 := own_sub s0 (4519 : Int32)
  simp only [Int32.lt_iff_toInt_lt, Int32.reduceToInt] at *
  unfold own_g
  simp only [Int32.lt_iff_toInt_lt, Int32.reduceToInt] at *
  repeat' split
  all_goals first | rfl | (exfalso; first | omega | contradiction)
theorem own_x4 (f s0 : Int32) (hc145 : ¬ (f < (44032 : Int32))) (hc151 : ¬ ((55203 : Int32) < f)) (hc161 : ((f - (44032 : Int32)) % (28 : Int32)) = 0) (hc169 : s0 < (4520 : Int32)) : own_g f s0 = (-1 : Int32) := by
  have b1 := f.toInt_lt; have b2 := f.le_toInt; have b3 := s0.toInt_lt; have b4 := s0.le_toInt
  have d1 := own_sub f (4352 : Int32); have d2 := own_sub s0 (4449 : Int32); have d3 := own_sub f (44032 : Int32); have d4 := own_sub s0 (4519 : Int32)
  simp only [Int32.lt_iff_toInt_lt, Int32.reduceToInt] at *
  unfold own_g
  simp only [Int32.lt_iff_toInt_lt, Int32.reduceToInt] at *
  repeat' split
  all_goals first | rfl | (exfalso; first | omega | contradiction)
theorem own_x5 (f s0 : Int32) (hc145 : ¬ (f < (44032 : Int32))) (hc151 : ¬ ((55203 : Int32) < f)) (hc161 : ((f - (44032 : Int32)) % (28 : Int32)) = 0) (hc169 : ¬ (s0 < (4520 : Int32))) (hc177 : (4546 : Int32) < s0) : own_g f s0 = (-1 : Int32) := by
  have b1 := f.toInt_lt; have b2 := f.le_toInt; have b3 := s0.toInt_lt; have b4 := s0.le_toInt
  have d1 := own_sub f (4352 : Int32); have d2 := own_sub s0 (4449 : Int32); have d3 := own_sub f (44032 : Int32); have d4 := own_sub s0 (4519 : Int32)
  simp only [Int32.lt_iff_toInt_lt, Int32.reduceToInt] at *
  unfold own_g
  simp only [Int32.lt_iff_toInt_lt, Int32.reduceToInt] at *
  repeat' split
  all_goals first | rfl | (exfalso; first | omega | contradiction)
theorem own_x6 (f s0 : Int32) (hc145 : ¬ (f < (44032 : Int32))) (hc151 : ¬ ((55203 : Int32) < f)) (hc161 : ((f - (44032 : Int32)) % (28 : Int32)) = 0) (hc169 : ¬ (s0 < (4520 : Int32))) (hc177 : ¬ ((4546 : Int32) < s0)) : own_g f s0 = (f + (s0 - (4519 : Int32))) := by
  have b1 := f.toInt_lt; have b2 := f.le_toInt; have b3 := s0.toInt_lt; have b4 := s0.le_toInt
  have d1 := own_sub f (4352 : Int32); have d2 := own_sub s0 (4449 : Int32); have d3 := own_sub f (44032 : Int32); have d4 := own_sub s0 (4519 : Int32)
  simp only [Int32.lt_iff_toInt_lt, Int32.reduceToInt] at *
  unfold own_g
  simp only [Int32.lt_iff_toInt_lt, Int32.reduceToInt] at *
  repeat' split
  all_goals first | rfl | (exfalso; first | omega | contradiction)
theorem own_x7 (f s0 : Int32) (hc145 : ¬ (f < (44032 : Int32))) (hc151 : ¬ ((55203 : Int32) < f)) (hc161 : ¬ (((f - (44032 : Int32)) % (28 : Int32)) = 0)) : own_g f s0 = (-1 : Int32) := by
  have b1 := f.toInt_lt; have b2 := f.le_toInt; have b3 := s0.toInt_lt; have b4 := s0.le_toInt
  have d1 := own_sub f (4352 : Int32); have d2 := own_sub s0 (4449 : Int32); have d3 := own_sub f (44032 : Int32); have d4 := own_sub s0 (4519 : Int32)
  simp only [Int32.lt_iff_toInt_lt, Int32.reduceToInt] at *
  unfold own_g
  simp only [Int32.lt_iff_toInt_lt, Int32.reduceToInt] at *
  repeat' split
  all_goals first | rfl | (exfalso; first | omega | contradiction)
set_option maxRecDepth 65536 in
set_option maxHeartbeats 40000000 in
theorem own_p142 {p : Program} {l : Launch} {e : Env} {s : State} {m : MethodId} {args : Array Value} {below : List Frame} {meth : Method} {c : Code} {Z : State} {a0 : Array Value} {n0 : Nat} (hx : p.tables.exec = Jvm.exec) (hZ : Z.Warmed39 s.vm) (hw : ∀ d ∈ tables_1, d.before a0 Z = true) (hby : c.code = code) (hml : c.maxLocals = 6) (hown : s.vm.findClass "com/example/pvalid/pvalid/unicode/HangulComposePinLaw" = some m.cls) (hnm : meth.name = "law") (hret : meth.sig.returnType = (some .boolean)) (hlk : meth.locks = false) (m0 x0 y0 f s0 : Int32) {T0 : State} {locs : List Loc} {h0 : Heap} (X0 : Stand p l e room_1 s m args below meth c T0 locs 0 0) (e0 : T0.heap = h0) (N0 : Fr n0 locs) (Z0 : n0 ≤ h0.size) (hB : own_f1 f s0 = own_g f s0) :
    own_Go p e below T0 (mkF m 142 #[.val (.int m0), .val (.int x0), .val (.int y0), .val (.int f), .val (.int s0), .val (.int (-1 : Int32))] []) (own_Fin s (fun (v : Option Value) (h : Heap) (L : List Loc) => v = some (.int 1) ∧ Fr n0 L) 0 0) := by
  show own_Go p e below T0 (mkF m 142 #[.val (.int m0), .val (.int x0), .val (.int y0), .val (.int f), .val (.int s0), .val (.int (-1 : Int32))] []) _
  refine own_s_iloadN X0.here hx (hb hby at_142) rfl ?_
  refine own_by (fun t k => X0.ldcInt hx hown (mvT hZ (hw _ (List.mem_of_getElem? (i := 1) rfl))) (g := (mkF m 143 #[.val (.int m0), .val (.int x0), .val (.int y0), .val (.int f), .val (.int s0), .val (.int (-1 : Int32))] [(.int f)])) rfl (hb hby at_143) t k) ?_
  show own_Go p e below T0 (mkF m 145 #[.val (.int m0), .val (.int x0), .val (.int y0), .val (.int f), .val (.int s0), .val (.int (-1 : Int32))] [(.int (44032 : Int32)), (.int f)]) _
  by_cases hc145 : f < (44032 : Int32)
  ·
    refine own_s_icmpYes X0.here hx 190 (hb hby at_145) (Jvm.Free.XT.ii_lt_t hc145) (by decide) (by decide) ?_
    exact own_p190 hx hZ hw hby hml hown hnm hret hlk  m0 x0 y0 f s0 (-1 : Int32) X0 e0 N0 Z0 (hB.trans (own_x2 f s0 hc145))
  ·
    refine own_s_icmpNo X0.here hx (hb hby at_145) (Jvm.Free.XT.ii_lt_f hc145) ?_
    refine own_s_iloadN X0.here hx (hb hby at_148) rfl ?_
    refine own_by (fun t k => X0.ldcInt hx hown (mvT hZ (hw _ (List.mem_of_getElem? (i := 8) rfl))) (g := (mkF m 149 #[.val (.int m0), .val (.int x0), .val (.int y0), .val (.int f), .val (.int s0), .val (.int (-1 : Int32))] [(.int f)])) rfl (hb hby at_149) t k) ?_
    show own_Go p e below T0 (mkF m 151 #[.val (.int m0), .val (.int x0), .val (.int y0), .val (.int f), .val (.int s0), .val (.int (-1 : Int32))] [(.int (55203 : Int32)), (.int f)]) _
    by_cases hc151 : (55203 : Int32) < f
    ·
      refine own_s_icmpYes X0.here hx 190 (hb hby at_151) (Jvm.Free.XT.ii_gt_t hc151) (by decide) (by decide) ?_
      exact own_p190 hx hZ hw hby hml hown hnm hret hlk  m0 x0 y0 f s0 (-1 : Int32) X0 e0 N0 Z0 (hB.trans (own_x3 f s0 hc145 hc151))
    ·
      refine own_s_icmpNo X0.here hx (hb hby at_151) (Jvm.Free.XT.ii_gt_f hc151) ?_
      refine own_s_iloadN X0.here hx (hb hby at_154) rfl ?_
      refine own_by (fun t k => X0.ldcInt hx hown (mvT hZ (hw _ (List.mem_of_getElem? (i := 1) rfl))) (g := (mkF m 155 #[.val (.int m0), .val (.int x0), .val (.int y0), .val (.int f), .val (.int s0), .val (.int (-1 : Int32))] [(.int f)])) rfl (hb hby at_155) t k) ?_
      show own_Go p e below T0 (mkF m 157 #[.val (.int m0), .val (.int x0), .val (.int y0), .val (.int f), .val (.int s0), .val (.int (-1 : Int32))] [(.int (44032 : Int32)), (.int f)]) _
      refine own_s_isub X0.here hx (hb hby at_157) ?_
      refine own_s_bipush X0.here hx (28 : Int32) (hb hby at_158) rfl ?_
      refine own_by (fun t k => iremM X0 hx rfl (hb hby at_160) rfl (by decide) k) ?_
      show own_Go p e below T0 (mkF m 161 #[.val (.int m0), .val (.int x0), .val (.int y0), .val (.int f), .val (.int s0), .val (.int (-1 : Int32))] [(.int ((f - (44032 : Int32)) % (28 : Int32)))]) _
      by_cases hc161 : ((f - (44032 : Int32)) % (28 : Int32)) = 0
      ·
        refine own_s_ifNo X0.here hx (hb hby at_161) (Jvm.Free.XT.i0_ne_f hc161) ?_
        refine own_s_iload X0.here hx (hb hby at_164) rfl ?_
        refine own_s_sipush X0.here hx (4520 : Int32) (hb hby at_166) rfl ?_
        by_cases hc169 : s0 < (4520 : Int32)
        ·
          show own_Go p e below T0 (mkF m 169 #[.val (.int m0), .val (.int x0), .val (.int y0), .val (.int f), .val (.int s0), .val (.int (-1 : Int32))] [(.int (4520 : Int32)), (.int s0)]) _
          refine own_s_icmpYes X0.here hx 190 (hb hby at_169) (Jvm.Free.XT.ii_lt_t hc169) (by decide) (by decide) ?_
          exact own_p190 hx hZ hw hby hml hown hnm hret hlk  m0 x0 y0 f s0 (-1 : Int32) X0 e0 N0 Z0 (hB.trans (own_x4 f s0 hc145 hc151 hc161 hc169))
        ·
          refine own_s_icmpNo X0.here hx (hb hby at_169) (Jvm.Free.XT.ii_lt_f hc169) ?_
          refine own_s_iload X0.here hx (hb hby at_172) rfl ?_
          refine own_s_sipush X0.here hx (4546 : Int32) (hb hby at_174) rfl ?_
          by_cases hc177 : (4546 : Int32) < s0
          ·
            show own_Go p e below T0 (mkF m 177 #[.val (.int m0), .val (.int x0), .val (.int y0), .val (.int f), .val (.int s0), .val (.int (-1 : Int32))] [(.int (4546 : Int32)), (.int s0)]) _
            refine own_s_icmpYes X0.here hx 190 (hb hby at_177) (Jvm.Free.XT.ii_gt_t hc177) (by decide) (by decide) ?_
            exact own_p190 hx hZ hw hby hml hown hnm hret hlk  m0 x0 y0 f s0 (-1 : Int32) X0 e0 N0 Z0 (hB.trans (own_x5 f s0 hc145 hc151 hc161 hc169 hc177))
          ·
            refine own_s_icmpNo X0.here hx (hb hby at_177) (Jvm.Free.XT.ii_gt_f hc177) ?_
            refine own_s_iloadN X0.here hx (hb hby at_180) rfl ?_
            refine own_s_iload X0.here hx (hb hby at_181) rfl ?_
            refine own_s_sipush X0.here hx (4519 : Int32) (hb hby at_183) rfl ?_
            refine own_s_isub X0.here hx (hb hby at_186) ?_
            refine own_s_iadd X0.here hx (hb hby at_187) ?_
            show own_Go p e below T0 (mkF m 188 #[.val (.int m0), .val (.int x0), .val (.int y0), .val (.int f), .val (.int s0), .val (.int (-1 : Int32))] [(.int (f + (s0 - (4519 : Int32))))]) _
            refine own_s_istore X0.here hx #[.val (.int m0), .val (.int x0), .val (.int y0), .val (.int f), .val (.int s0), .val (.int (f + (s0 - (4519 : Int32))))] (hb hby at_188) rfl ?_
            exact own_p190 hx hZ hw hby hml hown hnm hret hlk  m0 x0 y0 f s0 (f + (s0 - (4519 : Int32))) X0 e0 N0 Z0 (hB.trans (own_x6 f s0 hc145 hc151 hc161 hc169 hc177))
      ·
        refine own_s_ifYes X0.here hx 190 (hb hby at_161) (Jvm.Free.XT.i0_ne_t hc161) (by decide) (by decide) ?_
        exact own_p190 hx hZ hw hby hml hown hnm hret hlk  m0 x0 y0 f s0 (-1 : Int32) X0 e0 N0 Z0 (hB.trans (own_x7 f s0 hc145 hc151 hc161))
theorem own_x8 (f s0 : Int32) (hc89 : f < (4352 : Int32)) : own_f1 f s0 = own_g f s0 := by
  have b1 := f.toInt_lt; have b2 := f.le_toInt; have b3 := s0.toInt_lt; have b4 := s0.le_toInt
  have d1 := own_sub f (4352 : Int32); have d2 := own_sub s0 (4449 : Int32); have d3 := own_sub f (44032 : Int32); have d4 := own_sub s0 (4519 : Int32)
  simp only [Int32.lt_iff_toInt_lt, Int32.reduceToInt] at *
  unfold own_f1
  simp only [Int32.lt_iff_toInt_lt, Int32.reduceToInt] at *
  repeat' split
  all_goals first | rfl | (exfalso; omega)
theorem own_x9 (f s0 : Int32) (hc89 : ¬ (f < (4352 : Int32))) (hc96 : (4370 : Int32) < f) : own_f1 f s0 = own_g f s0 := by
  have b1 := f.toInt_lt; have b2 := f.le_toInt; have b3 := s0.toInt_lt; have b4 := s0.le_toInt
  have d1 := own_sub f (4352 : Int32); have d2 := own_sub s0 (4449 : Int32); have d3 := own_sub f (44032 : Int32); have d4 := own_sub s0 (4519 : Int32)
  simp only [Int32.lt_iff_toInt_lt, Int32.reduceToInt] at *
  unfold own_f1
  simp only [Int32.lt_iff_toInt_lt, Int32.reduceToInt] at *
  repeat' split
  all_goals first | rfl | (exfalso; omega)
theorem own_x10 (f s0 : Int32) (hc89 : ¬ (f < (4352 : Int32))) (hc96 : ¬ ((4370 : Int32) < f)) (hc104 : s0 < (4449 : Int32)) : own_f1 f s0 = own_g f s0 := by
  have b1 := f.toInt_lt; have b2 := f.le_toInt; have b3 := s0.toInt_lt; have b4 := s0.le_toInt
  have d1 := own_sub f (4352 : Int32); have d2 := own_sub s0 (4449 : Int32); have d3 := own_sub f (44032 : Int32); have d4 := own_sub s0 (4519 : Int32)
  simp only [Int32.lt_iff_toInt_lt, Int32.reduceToInt] at *
  unfold own_f1
  simp only [Int32.lt_iff_toInt_lt, Int32.reduceToInt] at *
  repeat' split
  all_goals first | rfl | (exfalso; omega)
theorem own_x11 (f s0 : Int32) (hc89 : ¬ (f < (4352 : Int32))) (hc96 : ¬ ((4370 : Int32) < f)) (hc104 : ¬ (s0 < (4449 : Int32))) (hc112 : (4469 : Int32) < s0) : own_f1 f s0 = own_g f s0 := by
  have b1 := f.toInt_lt; have b2 := f.le_toInt; have b3 := s0.toInt_lt; have b4 := s0.le_toInt
  have d1 := own_sub f (4352 : Int32); have d2 := own_sub s0 (4449 : Int32); have d3 := own_sub f (44032 : Int32); have d4 := own_sub s0 (4519 : Int32)
  simp only [Int32.lt_iff_toInt_lt, Int32.reduceToInt] at *
  unfold own_f1
  simp only [Int32.lt_iff_toInt_lt, Int32.reduceToInt] at *
  repeat' split
  all_goals first | rfl | (exfalso; omega)
theorem own_x12 (f s0 : Int32) (hc89 : ¬ (f < (4352 : Int32))) (hc96 : ¬ ((4370 : Int32) < f)) (hc104 : ¬ (s0 < (4449 : Int32))) (hc112 : ¬ ((4469 : Int32) < s0)) : own_f1 f s0 = (((44032 : Int32) + ((f - (4352 : Int32)) * (588 : Int32))) + ((s0 - (4449 : Int32)) * (28 : Int32))) := by
  have b1 := f.toInt_lt; have b2 := f.le_toInt; have b3 := s0.toInt_lt; have b4 := s0.le_toInt
  have d1 := own_sub f (4352 : Int32); have d2 := own_sub s0 (4449 : Int32); have d3 := own_sub f (44032 : Int32); have d4 := own_sub s0 (4519 : Int32)
  simp only [Int32.lt_iff_toInt_lt, Int32.reduceToInt] at *
  unfold own_f1
  rw [if_neg (by simp only [Int32.lt_iff_toInt_lt, Int32.reduceToInt]; omega), if_pos (by simp only [Int32.lt_iff_toInt_lt, Int32.reduceToInt]; omega), if_neg (by simp only [Int32.lt_iff_toInt_lt, Int32.reduceToInt]; omega), if_pos (by simp only [Int32.lt_iff_toInt_lt, Int32.reduceToInt]; omega)]
  rw [Int32.add_mul, Int32.mul_assoc, show (21 : Int32) * 28 = 588 from by decide, ← Int32.add_assoc]
set_option maxRecDepth 65536 in
set_option maxHeartbeats 40000000 in
theorem own_p82 {p : Program} {l : Launch} {e : Env} {s : State} {m : MethodId} {args : Array Value} {below : List Frame} {meth : Method} {c : Code} {Z : State} {a0 : Array Value} {n0 : Nat} (hx : p.tables.exec = Jvm.exec) (hZ : Z.Warmed39 s.vm) (hw : ∀ d ∈ tables_1, d.before a0 Z = true) (hby : c.code = code) (hml : c.maxLocals = 6) (hown : s.vm.findClass "com/example/pvalid/pvalid/unicode/HangulComposePinLaw" = some m.cls) (hnm : meth.name = "law") (hret : meth.sig.returnType = (some .boolean)) (hlk : meth.locks = false) (m0 x0 y0 f s0 : Int32) {T0 : State} {locs : List Loc} {h0 : Heap} (X0 : Stand p l e room_1 s m args below meth c T0 locs 0 0) (e0 : T0.heap = h0) (N0 : Fr n0 locs) (Z0 : n0 ≤ h0.size) :
    own_Go p e below T0 (mkF m 82 #[.val (.int m0), .val (.int x0), .val (.int y0), .val (.int f), .val (.int s0), .unset] []) (own_Fin s (fun (v : Option Value) (h : Heap) (L : List Loc) => v = some (.int 1) ∧ Fr n0 L) 0 0) := by
  show own_Go p e below T0 (mkF m 82 #[.val (.int m0), .val (.int x0), .val (.int y0), .val (.int f), .val (.int s0), .unset] []) _
  refine own_s_iconst X0.here hx (-1 : Int32) (hb hby at_82) rfl ?_
  refine own_s_istore X0.here hx #[.val (.int m0), .val (.int x0), .val (.int y0), .val (.int f), .val (.int s0), .val (.int (-1 : Int32))] (hb hby at_83) rfl ?_
  refine own_s_iloadN X0.here hx (hb hby at_85) rfl ?_
  refine own_s_sipush X0.here hx (4352 : Int32) (hb hby at_86) rfl ?_
  by_cases hc89 : f < (4352 : Int32)
  ·
    show own_Go p e below T0 (mkF m 89 #[.val (.int m0), .val (.int x0), .val (.int y0), .val (.int f), .val (.int s0), .val (.int (-1 : Int32))] [(.int (4352 : Int32)), (.int f)]) _
    refine own_s_icmpYes X0.here hx 142 (hb hby at_89) (Jvm.Free.XT.ii_lt_t hc89) (by decide) (by decide) ?_
    exact own_p142 hx hZ hw hby hml hown hnm hret hlk  m0 x0 y0 f s0 X0 e0 N0 Z0 (own_x8 f s0 hc89)
  ·
    refine own_s_icmpNo X0.here hx (hb hby at_89) (Jvm.Free.XT.ii_lt_f hc89) ?_
    refine own_s_iloadN X0.here hx (hb hby at_92) rfl ?_
    refine own_s_sipush X0.here hx (4370 : Int32) (hb hby at_93) rfl ?_
    by_cases hc96 : (4370 : Int32) < f
    ·
      show own_Go p e below T0 (mkF m 96 #[.val (.int m0), .val (.int x0), .val (.int y0), .val (.int f), .val (.int s0), .val (.int (-1 : Int32))] [(.int (4370 : Int32)), (.int f)]) _
      refine own_s_icmpYes X0.here hx 142 (hb hby at_96) (Jvm.Free.XT.ii_gt_t hc96) (by decide) (by decide) ?_
      exact own_p142 hx hZ hw hby hml hown hnm hret hlk  m0 x0 y0 f s0 X0 e0 N0 Z0 (own_x9 f s0 hc89 hc96)
    ·
      refine own_s_icmpNo X0.here hx (hb hby at_96) (Jvm.Free.XT.ii_gt_f hc96) ?_
      refine own_s_iload X0.here hx (hb hby at_99) rfl ?_
      refine own_s_sipush X0.here hx (4449 : Int32) (hb hby at_101) rfl ?_
      by_cases hc104 : s0 < (4449 : Int32)
      ·
        show own_Go p e below T0 (mkF m 104 #[.val (.int m0), .val (.int x0), .val (.int y0), .val (.int f), .val (.int s0), .val (.int (-1 : Int32))] [(.int (4449 : Int32)), (.int s0)]) _
        refine own_s_icmpYes X0.here hx 142 (hb hby at_104) (Jvm.Free.XT.ii_lt_t hc104) (by decide) (by decide) ?_
        exact own_p142 hx hZ hw hby hml hown hnm hret hlk  m0 x0 y0 f s0 X0 e0 N0 Z0 (own_x10 f s0 hc89 hc96 hc104)
      ·
        refine own_s_icmpNo X0.here hx (hb hby at_104) (Jvm.Free.XT.ii_lt_f hc104) ?_
        refine own_s_iload X0.here hx (hb hby at_107) rfl ?_
        show own_Go p e below T0 (mkF m 109 #[.val (.int m0), .val (.int x0), .val (.int y0), .val (.int f), .val (.int s0), .val (.int (-1 : Int32))] [(.int s0)]) _
        refine own_s_sipush X0.here hx (4469 : Int32) (hb hby at_109) rfl ?_
        by_cases hc112 : (4469 : Int32) < s0
        ·
          show own_Go p e below T0 (mkF m 112 #[.val (.int m0), .val (.int x0), .val (.int y0), .val (.int f), .val (.int s0), .val (.int (-1 : Int32))] [(.int (4469 : Int32)), (.int s0)]) _
          refine own_s_icmpYes X0.here hx 142 (hb hby at_112) (Jvm.Free.XT.ii_gt_t hc112) (by decide) (by decide) ?_
          exact own_p142 hx hZ hw hby hml hown hnm hret hlk  m0 x0 y0 f s0 X0 e0 N0 Z0 (own_x11 f s0 hc89 hc96 hc104 hc112)
        ·
          refine own_s_icmpNo X0.here hx (hb hby at_112) (Jvm.Free.XT.ii_gt_f hc112) ?_
          refine own_by (fun t k => X0.ldcInt hx hown (mvT hZ (hw _ (List.mem_of_getElem? (i := 1) rfl))) (g := (mkF m 115 #[.val (.int m0), .val (.int x0), .val (.int y0), .val (.int f), .val (.int s0), .val (.int (-1 : Int32))] [])) rfl (hb hby at_115) t k) ?_
          show own_Go p e below T0 (mkF m 117 #[.val (.int m0), .val (.int x0), .val (.int y0), .val (.int f), .val (.int s0), .val (.int (-1 : Int32))] [(.int (44032 : Int32))]) _
          refine own_s_iloadN X0.here hx (hb hby at_117) rfl ?_
          refine own_s_sipush X0.here hx (4352 : Int32) (hb hby at_118) rfl ?_
          refine own_s_isub X0.here hx (hb hby at_121) ?_
          refine own_s_sipush X0.here hx (588 : Int32) (hb hby at_122) rfl ?_
          refine own_s_imul X0.here hx (hb hby at_125) ?_
          refine own_s_iadd X0.here hx (hb hby at_126) ?_
          refine own_s_iload X0.here hx (hb hby at_127) rfl ?_
          refine own_s_sipush X0.here hx (4449 : Int32) (hb hby at_129) rfl ?_
          refine own_s_isub X0.here hx (hb hby at_132) ?_
          refine own_s_bipush X0.here hx (28 : Int32) (hb hby at_133) rfl ?_
          refine own_s_imul X0.here hx (hb hby at_135) ?_
          refine own_s_iadd X0.here hx (hb hby at_136) ?_
          show own_Go p e below T0 (mkF m 137 #[.val (.int m0), .val (.int x0), .val (.int y0), .val (.int f), .val (.int s0), .val (.int (-1 : Int32))] [(.int (((44032 : Int32) + ((f - (4352 : Int32)) * (588 : Int32))) + ((s0 - (4449 : Int32)) * (28 : Int32))))]) _
          refine own_s_istore X0.here hx #[.val (.int m0), .val (.int x0), .val (.int y0), .val (.int f), .val (.int s0), .val (.int (((44032 : Int32) + ((f - (4352 : Int32)) * (588 : Int32))) + ((s0 - (4449 : Int32)) * (28 : Int32))))] (hb hby at_137) rfl ?_
          show own_Go p e below T0 (mkF m 139 #[.val (.int m0), .val (.int x0), .val (.int y0), .val (.int f), .val (.int s0), .val (.int (((44032 : Int32) + ((f - (4352 : Int32)) * (588 : Int32))) + ((s0 - (4449 : Int32)) * (28 : Int32))))] []) _
          refine own_s_goto X0.here hx 190 (hb hby at_139) (by decide) (by decide) ?_
          exact own_p190 hx hZ hw hby hml hown hnm hret hlk  m0 x0 y0 f s0 (((44032 : Int32) + ((f - (4352 : Int32)) * (588 : Int32))) + ((s0 - (4449 : Int32)) * (28 : Int32))) X0 e0 N0 Z0 (own_x12 f s0 hc89 hc96 hc104 hc112)
theorem own_ml : maxLocals = 6 := rfl
theorem own_ef0 (m : MethodId) (m0 : Int32) (x0 : Int32) (y0 : Int32) : entryFrame m #[(.int m0), (.int x0), (.int y0)] maxLocals = mkF m 0 #[.val (.int m0), .val (.int x0), .val (.int y0), .unset, .unset, .unset] [] := by first | (simp [entryFrame, mkF, argsToLocals, Value.category, maxLocals]; done) | rfl
def own_q_own_r0 (Z : State) (m0 : Int32) (x0 : Int32) (y0 : Int32) (h0 : Heap) (n0 : Nat) (v : Option Value) (h : Heap) (L : List Loc) : Prop := v = some (.int 1) ∧ Fr n0 L
set_option maxRecDepth 65536 in
set_option maxHeartbeats 40000000 in
theorem own_r0 (l : Launch) (Z : State) (a0 : Array Value) (hw : ∀ d ∈ tables_1, d.before a0 Z = true) (ws : List Jvm.Cond) (m0 : Int32) (x0 : Int32) (y0 : Int32) (h0 : Heap) (n0 : Nat) (Z0 : n0 ≤ h0.size) :
    MetFree l x (head1 (Jvm.Cond.code x code maxLocals ret :: ws) room_1) (fun a U => a = #[(.int m0), (.int x0), (.int y0)] ∧ Z.Warmed39 U.vm ∧ U.heap = h0) (fun _ _ _ _ _ => True) (fun _ U o U' => ∃ v L, o = .returned v ∧ own_q_own_r0 Z m0 x0 y0 h0 n0 v U'.heap L ∧ FrameEnd U o U' L 0 0) := by
  refine MetFree.of_bodySF (plainFor_of_name own_pn_HangulComposePinLaw) hisR ?_
  intro p e s m args below meth c T0 Bd hml0 hP hK
  obtain ⟨rfl, hZ, hh⟩ := hP
  have hx := Bd.exec
  have hby := Bd.bytes
  have hml : c.maxLocals = 6 := hml0
  have hown : s.vm.findClass "com/example/pvalid/pvalid/unicode/HangulComposePinLaw" = some m.cls := findClass_of_methodNamed Bd.named
  have hnm := (name_of_methodNamed Bd.named Bd.method).1
  have hret : meth.sig.returnType = (some .boolean) := Bd.returns
  have hlk : meth.locks = false := BodyLoose.notSynchronized Bd
  have X0 : Stand p l e room_1 s m #[(.int m0), (.int x0), (.int y0)] below meth c T0 [] 0 0 := Stand.of_body Bd
  have e0 : T0.heap = h0 := by rw [← hh, Bd.state]; rfl
  have N0 := Fr.nil n0
  refine own_start (own_ef0 m m0 x0 y0) (Q := fun (v : Option Value) (h : Heap) (L : List Loc) => v = some (.int 1) ∧ Fr n0 L) (k := 0) (j := 0) ?_
  show own_Go p e below T0 (mkF m 0 #[.val (.int m0), .val (.int x0), .val (.int y0), .unset, .unset, .unset] []) _
  refine own_s_iloadN X0.here hx (hb hby at_0) rfl ?_
  refine own_s_iconst X0.here hx (4 : Int32) (hb hby at_1) rfl ?_
  refine own_s_iand X0.here hx (hb hby at_2) ?_
  by_cases hc3 : (m0 &&& (4 : Int32)) = 0
  ·
    show own_Go p e below T0 (mkF m 3 #[.val (.int m0), .val (.int x0), .val (.int y0), .unset, .unset, .unset] [(.int (m0 &&& (4 : Int32)))]) _
    refine own_s_ifYes X0.here hx 14 (hb hby at_3) (Jvm.Free.XT.i0_eq_t hc3) (by decide) (by decide) ?_
    refine own_s_iloadN X0.here hx (hb hby at_14) rfl ?_
    refine own_s_iconst X0.here hx (1 : Int32) (hb hby at_15) rfl ?_
    refine own_s_iand X0.here hx (hb hby at_16) ?_
    by_cases hc17 : (m0 &&& (1 : Int32)) = 0
    ·
      refine own_s_ifNo X0.here hx (hb hby at_17) (Jvm.Free.XT.i0_ne_f hc17) ?_
      refine own_s_sipush X0.here hx (4350 : Int32) (hb hby at_20) rfl ?_
      refine own_s_iloadN X0.here hx (hb hby at_23) rfl ?_
      refine own_by (fun t k => X0.ldcInt hx hown (mvT hZ (hw _ (List.mem_of_getElem? (i := 0) rfl))) (g := (mkF m 24 #[.val (.int m0), .val (.int x0), .val (.int y0), .unset, .unset, .unset] [(.int x0), (.int (4350 : Int32))])) rfl (hb hby at_24) t k) ?_
      show own_Go p e below T0 (mkF m 26 #[.val (.int m0), .val (.int x0), .val (.int y0), .unset, .unset, .unset] [(.int (2147483647 : Int32)), (.int x0), (.int (4350 : Int32))]) _
      refine own_s_iand X0.here hx (hb hby at_26) ?_
      refine own_s_bipush X0.here hx (24 : Int32) (hb hby at_27) rfl ?_
      refine own_by (fun t k => iremM X0 hx rfl (hb hby at_29) rfl (by decide) k) ?_
      show own_Go p e below T0 (mkF m 30 #[.val (.int m0), .val (.int x0), .val (.int y0), .unset, .unset, .unset] [(.int ((x0 &&& (2147483647 : Int32)) % (24 : Int32))), (.int (4350 : Int32))]) _
      refine own_s_iadd X0.here hx (hb hby at_30) ?_
      refine own_s_istoreN X0.here hx #[.val (.int m0), .val (.int x0), .val (.int y0), .val (.int ((4350 : Int32) + ((x0 &&& (2147483647 : Int32)) % (24 : Int32)))), .unset, .unset] (hb hby at_31) rfl ?_
      show own_Go p e below T0 (mkF m 32 #[.val (.int m0), .val (.int x0), .val (.int y0), .val (.int ((4350 : Int32) + ((x0 &&& (2147483647 : Int32)) % (24 : Int32)))), .unset, .unset] []) _
      refine own_s_goto X0.here hx 47 (hb hby at_32) (by decide) (by decide) ?_
      refine own_s_iloadN X0.here hx (hb hby at_47) rfl ?_
      refine own_s_iconst X0.here hx (2 : Int32) (hb hby at_48) rfl ?_
      refine own_s_iand X0.here hx (hb hby at_49) ?_
      by_cases hc50 : (m0 &&& (2 : Int32)) = 0
      ·
        refine own_s_ifNo X0.here hx (hb hby at_50) (Jvm.Free.XT.i0_ne_f hc50) ?_
        refine own_s_sipush X0.here hx (4446 : Int32) (hb hby at_53) rfl ?_
        refine own_s_iloadN X0.here hx (hb hby at_56) rfl ?_
        refine own_by (fun t k => X0.ldcInt hx hown (mvT hZ (hw _ (List.mem_of_getElem? (i := 0) rfl))) (g := (mkF m 57 #[.val (.int m0), .val (.int x0), .val (.int y0), .val (.int ((4350 : Int32) + ((x0 &&& (2147483647 : Int32)) % (24 : Int32)))), .unset, .unset] [(.int y0), (.int (4446 : Int32))])) rfl (hb hby at_57) t k) ?_
        show own_Go p e below T0 (mkF m 59 #[.val (.int m0), .val (.int x0), .val (.int y0), .val (.int ((4350 : Int32) + ((x0 &&& (2147483647 : Int32)) % (24 : Int32)))), .unset, .unset] [(.int (2147483647 : Int32)), (.int y0), (.int (4446 : Int32))]) _
        refine own_s_iand X0.here hx (hb hby at_59) ?_
        refine own_s_bipush X0.here hx (27 : Int32) (hb hby at_60) rfl ?_
        refine own_by (fun t k => iremM X0 hx rfl (hb hby at_62) rfl (by decide) k) ?_
        show own_Go p e below T0 (mkF m 63 #[.val (.int m0), .val (.int x0), .val (.int y0), .val (.int ((4350 : Int32) + ((x0 &&& (2147483647 : Int32)) % (24 : Int32)))), .unset, .unset] [(.int ((y0 &&& (2147483647 : Int32)) % (27 : Int32))), (.int (4446 : Int32))]) _
        refine own_s_iadd X0.here hx (hb hby at_63) ?_
        refine own_s_istore X0.here hx #[.val (.int m0), .val (.int x0), .val (.int y0), .val (.int ((4350 : Int32) + ((x0 &&& (2147483647 : Int32)) % (24 : Int32)))), .val (.int ((4446 : Int32) + ((y0 &&& (2147483647 : Int32)) % (27 : Int32)))), .unset] (hb hby at_64) rfl ?_
        show own_Go p e below T0 (mkF m 66 #[.val (.int m0), .val (.int x0), .val (.int y0), .val (.int ((4350 : Int32) + ((x0 &&& (2147483647 : Int32)) % (24 : Int32)))), .val (.int ((4446 : Int32) + ((y0 &&& (2147483647 : Int32)) % (27 : Int32)))), .unset] []) _
        refine own_s_goto X0.here hx 82 (hb hby at_66) (by decide) (by decide) ?_
        exact own_p82 hx hZ hw hby hml hown hnm hret hlk  m0 x0 y0 ((4350 : Int32) + ((x0 &&& (2147483647 : Int32)) % (24 : Int32))) ((4446 : Int32) + ((y0 &&& (2147483647 : Int32)) % (27 : Int32))) X0 e0 N0 Z0 
      ·
        show own_Go p e below T0 (mkF m 50 #[.val (.int m0), .val (.int x0), .val (.int y0), .val (.int ((4350 : Int32) + ((x0 &&& (2147483647 : Int32)) % (24 : Int32)))), .unset, .unset] [(.int (m0 &&& (2 : Int32)))]) _
        refine own_s_ifYes X0.here hx 69 (hb hby at_50) (Jvm.Free.XT.i0_ne_t hc50) (by decide) (by decide) ?_
        refine own_s_sipush X0.here hx (4516 : Int32) (hb hby at_69) rfl ?_
        refine own_s_iloadN X0.here hx (hb hby at_72) rfl ?_
        refine own_by (fun t k => X0.ldcInt hx hown (mvT hZ (hw _ (List.mem_of_getElem? (i := 0) rfl))) (g := (mkF m 73 #[.val (.int m0), .val (.int x0), .val (.int y0), .val (.int ((4350 : Int32) + ((x0 &&& (2147483647 : Int32)) % (24 : Int32)))), .unset, .unset] [(.int y0), (.int (4516 : Int32))])) rfl (hb hby at_73) t k) ?_
        show own_Go p e below T0 (mkF m 75 #[.val (.int m0), .val (.int x0), .val (.int y0), .val (.int ((4350 : Int32) + ((x0 &&& (2147483647 : Int32)) % (24 : Int32)))), .unset, .unset] [(.int (2147483647 : Int32)), (.int y0), (.int (4516 : Int32))]) _
        refine own_s_iand X0.here hx (hb hby at_75) ?_
        refine own_s_bipush X0.here hx (34 : Int32) (hb hby at_76) rfl ?_
        refine own_by (fun t k => iremM X0 hx rfl (hb hby at_78) rfl (by decide) k) ?_
        show own_Go p e below T0 (mkF m 79 #[.val (.int m0), .val (.int x0), .val (.int y0), .val (.int ((4350 : Int32) + ((x0 &&& (2147483647 : Int32)) % (24 : Int32)))), .unset, .unset] [(.int ((y0 &&& (2147483647 : Int32)) % (34 : Int32))), (.int (4516 : Int32))]) _
        refine own_s_iadd X0.here hx (hb hby at_79) ?_
        refine own_s_istore X0.here hx #[.val (.int m0), .val (.int x0), .val (.int y0), .val (.int ((4350 : Int32) + ((x0 &&& (2147483647 : Int32)) % (24 : Int32)))), .val (.int ((4516 : Int32) + ((y0 &&& (2147483647 : Int32)) % (34 : Int32)))), .unset] (hb hby at_80) rfl ?_
        exact own_p82 hx hZ hw hby hml hown hnm hret hlk  m0 x0 y0 ((4350 : Int32) + ((x0 &&& (2147483647 : Int32)) % (24 : Int32))) ((4516 : Int32) + ((y0 &&& (2147483647 : Int32)) % (34 : Int32))) X0 e0 N0 Z0 
    ·
      show own_Go p e below T0 (mkF m 17 #[.val (.int m0), .val (.int x0), .val (.int y0), .unset, .unset, .unset] [(.int (m0 &&& (1 : Int32)))]) _
      refine own_s_ifYes X0.here hx 35 (hb hby at_17) (Jvm.Free.XT.i0_ne_t hc17) (by decide) (by decide) ?_
      refine own_by (fun t k => X0.ldcInt hx hown (mvT hZ (hw _ (List.mem_of_getElem? (i := 7) rfl))) (g := (mkF m 35 #[.val (.int m0), .val (.int x0), .val (.int y0), .unset, .unset, .unset] [])) rfl (hb hby at_35) t k) ?_
      show own_Go p e below T0 (mkF m 37 #[.val (.int m0), .val (.int x0), .val (.int y0), .unset, .unset, .unset] [(.int (44000 : Int32))]) _
      refine own_s_iloadN X0.here hx (hb hby at_37) rfl ?_
      refine own_by (fun t k => X0.ldcInt hx hown (mvT hZ (hw _ (List.mem_of_getElem? (i := 0) rfl))) (g := (mkF m 38 #[.val (.int m0), .val (.int x0), .val (.int y0), .unset, .unset, .unset] [(.int x0), (.int (44000 : Int32))])) rfl (hb hby at_38) t k) ?_
      show own_Go p e below T0 (mkF m 40 #[.val (.int m0), .val (.int x0), .val (.int y0), .unset, .unset, .unset] [(.int (2147483647 : Int32)), (.int x0), (.int (44000 : Int32))]) _
      refine own_s_iand X0.here hx (hb hby at_40) ?_
      refine own_s_sipush X0.here hx (11240 : Int32) (hb hby at_41) rfl ?_
      refine own_by (fun t k => iremM X0 hx rfl (hb hby at_44) rfl (by decide) k) ?_
      show own_Go p e below T0 (mkF m 45 #[.val (.int m0), .val (.int x0), .val (.int y0), .unset, .unset, .unset] [(.int ((x0 &&& (2147483647 : Int32)) % (11240 : Int32))), (.int (44000 : Int32))]) _
      refine own_s_iadd X0.here hx (hb hby at_45) ?_
      refine own_s_istoreN X0.here hx #[.val (.int m0), .val (.int x0), .val (.int y0), .val (.int ((44000 : Int32) + ((x0 &&& (2147483647 : Int32)) % (11240 : Int32)))), .unset, .unset] (hb hby at_46) rfl ?_
      refine own_s_iloadN X0.here hx (hb hby at_47) rfl ?_
      refine own_s_iconst X0.here hx (2 : Int32) (hb hby at_48) rfl ?_
      refine own_s_iand X0.here hx (hb hby at_49) ?_
      by_cases hc50 : (m0 &&& (2 : Int32)) = 0
      ·
        refine own_s_ifNo X0.here hx (hb hby at_50) (Jvm.Free.XT.i0_ne_f hc50) ?_
        refine own_s_sipush X0.here hx (4446 : Int32) (hb hby at_53) rfl ?_
        refine own_s_iloadN X0.here hx (hb hby at_56) rfl ?_
        refine own_by (fun t k => X0.ldcInt hx hown (mvT hZ (hw _ (List.mem_of_getElem? (i := 0) rfl))) (g := (mkF m 57 #[.val (.int m0), .val (.int x0), .val (.int y0), .val (.int ((44000 : Int32) + ((x0 &&& (2147483647 : Int32)) % (11240 : Int32)))), .unset, .unset] [(.int y0), (.int (4446 : Int32))])) rfl (hb hby at_57) t k) ?_
        show own_Go p e below T0 (mkF m 59 #[.val (.int m0), .val (.int x0), .val (.int y0), .val (.int ((44000 : Int32) + ((x0 &&& (2147483647 : Int32)) % (11240 : Int32)))), .unset, .unset] [(.int (2147483647 : Int32)), (.int y0), (.int (4446 : Int32))]) _
        refine own_s_iand X0.here hx (hb hby at_59) ?_
        refine own_s_bipush X0.here hx (27 : Int32) (hb hby at_60) rfl ?_
        refine own_by (fun t k => iremM X0 hx rfl (hb hby at_62) rfl (by decide) k) ?_
        show own_Go p e below T0 (mkF m 63 #[.val (.int m0), .val (.int x0), .val (.int y0), .val (.int ((44000 : Int32) + ((x0 &&& (2147483647 : Int32)) % (11240 : Int32)))), .unset, .unset] [(.int ((y0 &&& (2147483647 : Int32)) % (27 : Int32))), (.int (4446 : Int32))]) _
        refine own_s_iadd X0.here hx (hb hby at_63) ?_
        refine own_s_istore X0.here hx #[.val (.int m0), .val (.int x0), .val (.int y0), .val (.int ((44000 : Int32) + ((x0 &&& (2147483647 : Int32)) % (11240 : Int32)))), .val (.int ((4446 : Int32) + ((y0 &&& (2147483647 : Int32)) % (27 : Int32)))), .unset] (hb hby at_64) rfl ?_
        show own_Go p e below T0 (mkF m 66 #[.val (.int m0), .val (.int x0), .val (.int y0), .val (.int ((44000 : Int32) + ((x0 &&& (2147483647 : Int32)) % (11240 : Int32)))), .val (.int ((4446 : Int32) + ((y0 &&& (2147483647 : Int32)) % (27 : Int32)))), .unset] []) _
        refine own_s_goto X0.here hx 82 (hb hby at_66) (by decide) (by decide) ?_
        exact own_p82 hx hZ hw hby hml hown hnm hret hlk  m0 x0 y0 ((44000 : Int32) + ((x0 &&& (2147483647 : Int32)) % (11240 : Int32))) ((4446 : Int32) + ((y0 &&& (2147483647 : Int32)) % (27 : Int32))) X0 e0 N0 Z0 
      ·
        show own_Go p e below T0 (mkF m 50 #[.val (.int m0), .val (.int x0), .val (.int y0), .val (.int ((44000 : Int32) + ((x0 &&& (2147483647 : Int32)) % (11240 : Int32)))), .unset, .unset] [(.int (m0 &&& (2 : Int32)))]) _
        refine own_s_ifYes X0.here hx 69 (hb hby at_50) (Jvm.Free.XT.i0_ne_t hc50) (by decide) (by decide) ?_
        refine own_s_sipush X0.here hx (4516 : Int32) (hb hby at_69) rfl ?_
        refine own_s_iloadN X0.here hx (hb hby at_72) rfl ?_
        refine own_by (fun t k => X0.ldcInt hx hown (mvT hZ (hw _ (List.mem_of_getElem? (i := 0) rfl))) (g := (mkF m 73 #[.val (.int m0), .val (.int x0), .val (.int y0), .val (.int ((44000 : Int32) + ((x0 &&& (2147483647 : Int32)) % (11240 : Int32)))), .unset, .unset] [(.int y0), (.int (4516 : Int32))])) rfl (hb hby at_73) t k) ?_
        show own_Go p e below T0 (mkF m 75 #[.val (.int m0), .val (.int x0), .val (.int y0), .val (.int ((44000 : Int32) + ((x0 &&& (2147483647 : Int32)) % (11240 : Int32)))), .unset, .unset] [(.int (2147483647 : Int32)), (.int y0), (.int (4516 : Int32))]) _
        refine own_s_iand X0.here hx (hb hby at_75) ?_
        refine own_s_bipush X0.here hx (34 : Int32) (hb hby at_76) rfl ?_
        refine own_by (fun t k => iremM X0 hx rfl (hb hby at_78) rfl (by decide) k) ?_
        show own_Go p e below T0 (mkF m 79 #[.val (.int m0), .val (.int x0), .val (.int y0), .val (.int ((44000 : Int32) + ((x0 &&& (2147483647 : Int32)) % (11240 : Int32)))), .unset, .unset] [(.int ((y0 &&& (2147483647 : Int32)) % (34 : Int32))), (.int (4516 : Int32))]) _
        refine own_s_iadd X0.here hx (hb hby at_79) ?_
        refine own_s_istore X0.here hx #[.val (.int m0), .val (.int x0), .val (.int y0), .val (.int ((44000 : Int32) + ((x0 &&& (2147483647 : Int32)) % (11240 : Int32)))), .val (.int ((4516 : Int32) + ((y0 &&& (2147483647 : Int32)) % (34 : Int32)))), .unset] (hb hby at_80) rfl ?_
        exact own_p82 hx hZ hw hby hml hown hnm hret hlk  m0 x0 y0 ((44000 : Int32) + ((x0 &&& (2147483647 : Int32)) % (11240 : Int32))) ((4516 : Int32) + ((y0 &&& (2147483647 : Int32)) % (34 : Int32))) X0 e0 N0 Z0 
  ·
    refine own_s_ifNo X0.here hx (hb hby at_3) (Jvm.Free.XT.i0_eq_f hc3) ?_
    refine own_s_iloadN X0.here hx (hb hby at_6) rfl ?_
    refine own_s_istoreN X0.here hx #[.val (.int m0), .val (.int x0), .val (.int y0), .val (.int x0), .unset, .unset] (hb hby at_7) rfl ?_
    refine own_s_iloadN X0.here hx (hb hby at_8) rfl ?_
    refine own_s_istore X0.here hx #[.val (.int m0), .val (.int x0), .val (.int y0), .val (.int x0), .val (.int y0), .unset] (hb hby at_9) rfl ?_
    show own_Go p e below T0 (mkF m 11 #[.val (.int m0), .val (.int x0), .val (.int y0), .val (.int x0), .val (.int y0), .unset] []) _
    refine own_s_goto X0.here hx 82 (hb hby at_11) (by decide) (by decide) ?_
    exact own_p82 hx hZ hw hby hml hown hnm hret hlk  m0 x0 y0 x0 y0 X0 e0 N0 Z0 
set_option maxRecDepth 65536 in
set_option maxHeartbeats 40000000 in
theorem own_comes {Post : Tables → Env → Array Value → State → Outcome → State → Prop} (hpost : ∀ tb e args s v u, (limb_1_1.after args s (.returned v) u = true ∧ limb_1_2.after args s (.returned v) u = true ∧ True) → FrameEnd s (.returned v) u (Jvm.fieldLocs frame_1_writes args s ++ Jvm.arrayLocs frame_1_arrays args s ++ Jvm.staticLocs frame_1_statics s) 0 0 → Post tb e args s (.returned v) u) :
    ArmFor flags0 classFile x code maxLocals ret World_1 tables_1 room_1 Calls_1 rest_1 Pre_1 Post := by
  intro l hfl _ _ p e ha hc hk s m args below hf hA hF happ hP
  obtain ⟨hcalls, hrest, hpre⟩ := hP
  obtain ⟨-, -, -, hnamed, -, -, -, hat⟩ := (Spec.applies_iff hf).mp happ
  obtain ⟨hg, hn⟩ := and_e (Cond.before_iff.mp (show (Jvm.Cond.and given_1 narrow_1).before args s = true from hpre))
  obtain ⟨g1, g2⟩ := and_e hg
  obtain ⟨g3, g4⟩ := and_e g2
  obtain ⟨g5, g6⟩ := and_e g4
  obtain ⟨w0, w1, w2, rfl⟩ : ∃ w0 w1 w2 : Value, args = #[w0, w1, w2] := by
    have hs : args.size = 3 := by simpa [Cond.value, given_1] using g1
    obtain ⟨L⟩ := args
    match L, hs with
    | [w0, w1, w2], _ => exact ⟨w0, w1, w2, rfl⟩
  have hw := fun d (hd : d ∈ tables_1) => atoms_spec (ws := Jvm.Cond.code x code maxLocals ret :: tables_1) hat d (List.mem_cons_of_mem _ hd)
  obtain ⟨i0, ei0⟩ := is_v g3
  obtain rfl : w0 = (.int i0) := Option.some.inj ei0
  obtain ⟨i1, ei1⟩ := is_v g5
  obtain rfl : w1 = (.int i1) := Option.some.inj ei1
  obtain ⟨i2, ei2⟩ := is_v g6
  obtain rfl : w2 = (.int i2) := Option.some.inj ei2
  obtain ⟨n, o, h1, h2, h3, _, L, rfl, ⟨rfl, N⟩, hq⟩ := own_r0 l s _ hw tables_1 i0 i1 i2 s.heap s.heap.size (Nat.le_refl _) p e ha hc hk s m _ below hf ((Spec.applies_iff_loose hf).mp happ).1 ⟨rfl, State.Warmed39.refl s, rfl⟩ trivial
  refine ⟨n, _, h1, h2, h3, hpost _ _ _ _ _ _ ⟨Cond.after_iff.mpr rfl, Cond.after_iff.mpr (eq_i res_at (Term.int_eval (1)) rfl), trivial⟩ ⟨hq.1, hq.2.1, (hq.2.2.sift fun y hy => Or.inr (N y hy)).mono (by decide) (by decide)⟩⟩
theorem main_1_1 : Claimed_1_1 := own_comes fun _ _ _ _ _ _ h hF => ⟨h.1, hF⟩
theorem main_1_2 : Claimed_1_2 := own_comes fun _ _ _ _ _ _ h hF => ⟨h.2.1, hF⟩
end Jvm.Pilot.@@N@@
namespace Jvm.Pilot.@@N@@
open Jvm Jvm.ClassFile Sem Op Lib Jvm.Free Jvm.Stand Jvm.Pilot.@@N@@.Jvm.D
/-! MADE BY PROGRAM (witnessworld.py) out of the Statement's table words and the real class files: 9 classes; the members and pool entries that the words name. The judged class is class 1, her method 1. -/
namespace start1
open Jvm.ClassFile
def u (s : String) : CpInfo := .utf8 (stringToUtf16 s)
/-- a pool by its gaps: so many unusable entries, then the entry; so many at the end -/
def gap : Nat → List CpInfo → List CpInfo
  | 0, r => r
  | n + 1, r => .unusable :: gap n r
def poolList (es : List (Nat × CpInfo)) (last : Nat) : List CpInfo := es.foldr (fun e r => gap e.1 (e.2 :: r)) (gap last [])
def pool (es : List (Nat × CpInfo)) (last : Nat) : Array CpInfo := ⟨poolList es last⟩
def fileOf (pool : Array CpInfo) (this : Nat) (attrs : Array Attribute := #[]) (ms : Array MethodInfo := #[]) (fl : Nat := 33) (sup : Nat := 0) (ifs : Array Nat := #[]) (fds : Array FieldInfo := #[]) : ClassFile where
  minorVersion := 0
  majorVersion := 65
  constantPool := pool
  accessFlags := fl
  thisClass := this
  superClass := sup
  interfaces := ifs
  fields := fds
  methods := ms
  attributes := attrs
def plain (name : String) (sup : Option ClassId) : Class where
  name := name
  kind := .ordinary
  loader := none
  accessFlags := 33
  super := sup
  interfaces := #[]
  cf := none
  fields := #[]
  methods := #[]
  instanceTypes := #[]
  staticTypes := #[]
  resolved := #[]
  callSites := []
  init := .initialized
  statics := none
  mirror := none

def pool0 : Array CpInfo := pool [(5, u "<init>"), (0, u "()V"), (1, .class_ 10), (1, u "java/lang/Object")] 113

def k0m0 : Method := { name := "<init>", desc := "()V", sig := { parameters := [], returnType := none }, accessFlags := 1, code := none }
/-- java/lang/Object -/
def k0 : Class := { plain "java/lang/Object" none with
  accessFlags := 33
  interfaces := #[]
  cf := some (fileOf pool0 8 #[] #[{ accessFlags := 1, nameIndex := 5, descriptorIndex := 6, attributes := #[] }] 33 0 #[] #[])
  fields := #[]
  methods := #[k0m0]
  instanceTypes := #[]
  staticTypes := #[]
  resolved := Array.replicate 124 none
  statics := none }

def pool1 : Array CpInfo := pool [(2, .class_ 4), (1, u "java/lang/Object"), (0, u "<init>"), (0, u "()V"), (0, .integer 2147483647), (0, .integer 44000), (0, .integer 44032), (0, .integer 55203), (0, .methodref 12 13), (0, .class_ 14), (0, .nameAndType 15 16), (0, u "com/example/pvalid/pvalid/unicode/Hangul"), (0, u "compose"), (0, u "(II)I"), (0, .class_ 18), (0, u "com/example/pvalid/pvalid/unicode/HangulComposePinLaw"), (2, u "law"), (0, u "(III)Z")] 3

def k1m0 : Method := { name := "<init>", desc := "()V", sig := { parameters := [], returnType := none }, accessFlags := 2, code := none }
def k1c1 : Code := { maxStack := 3, maxLocals := 6, code := code, exceptionTable := #[], attributes := #[] }
def k1m1 : Method := { name := "law", desc := "(III)Z", sig := { parameters := [.int, .int, .int], returnType := some .boolean }, accessFlags := 9, code := some k1c1 }
/-- com/example/pvalid/pvalid/unicode/HangulComposePinLaw -/
def k1 : Class := { plain "com/example/pvalid/pvalid/unicode/HangulComposePinLaw" (some 0) with
  accessFlags := 49
  interfaces := #[]
  cf := some (fileOf pool1 17 #[] #[{ accessFlags := 2, nameIndex := 5, descriptorIndex := 6, attributes := #[] }, { accessFlags := 9, nameIndex := 21, descriptorIndex := 22, attributes := #[] }] 49 2 #[] #[])
  fields := #[]
  methods := #[k1m0, k1m1]
  instanceTypes := #[]
  staticTypes := #[]
  resolved := Array.replicate 26 none
  statics := none }

def pool2 : Array CpInfo := pool [(1, .class_ 2), (0, u "com/example/pvalid/pvalid/unicode/Hangul"), (1, .class_ 6), (1, u "java/lang/Object"), (0, u "<init>"), (0, u "()V"), (0, .integer 44032), (11, u "S_BASE"), (0, u "I"), (1, u "L_BASE"), (1, u "V_BASE"), (1, u "T_BASE"), (1, u "L_COUNT"), (1, u "V_COUNT"), (1, u "T_COUNT"), (1, u "N_COUNT"), (1, u "S_COUNT"), (11, u "compose"), (0, u "(II)I")] 2

def k2m0 : Method := { name := "<init>", desc := "()V", sig := { parameters := [], returnType := none }, accessFlags := 2, code := none }
def k2c1 : Code := { maxStack := 3, maxLocals := 6, code := prog_66_method_6_code, exceptionTable := #[], attributes := #[] }
def k2m1 : Method := { name := "compose", desc := "(II)I", sig := { parameters := [.int, .int], returnType := some .int }, accessFlags := 8, code := some k2c1 }
/-- com/example/pvalid/pvalid/unicode/Hangul -/
def k2 : Class := { plain "com/example/pvalid/pvalid/unicode/Hangul" (some 0) with
  accessFlags := 32
  interfaces := #[]
  cf := some (fileOf pool2 1 #[] #[{ accessFlags := 2, nameIndex := 7, descriptorIndex := 8, attributes := #[] }, { accessFlags := 8, nameIndex := 50, descriptorIndex := 51, attributes := #[] }] 32 4 #[] #[{ accessFlags := 26, nameIndex := 21, descriptorIndex := 22, attributes := #[] }, { accessFlags := 26, nameIndex := 24, descriptorIndex := 22, attributes := #[] }, { accessFlags := 26, nameIndex := 26, descriptorIndex := 22, attributes := #[] }, { accessFlags := 26, nameIndex := 28, descriptorIndex := 22, attributes := #[] }, { accessFlags := 26, nameIndex := 30, descriptorIndex := 22, attributes := #[] }, { accessFlags := 26, nameIndex := 32, descriptorIndex := 22, attributes := #[] }, { accessFlags := 26, nameIndex := 34, descriptorIndex := 22, attributes := #[] }, { accessFlags := 26, nameIndex := 36, descriptorIndex := 22, attributes := #[] }, { accessFlags := 26, nameIndex := 38, descriptorIndex := 22, attributes := #[] }])
  fields := #[{ name := "S_BASE", type := .int, accessFlags := 26, slot := 0, constantValue := 0 }, { name := "L_BASE", type := .int, accessFlags := 26, slot := 1, constantValue := 0 }, { name := "V_BASE", type := .int, accessFlags := 26, slot := 2, constantValue := 0 }, { name := "T_BASE", type := .int, accessFlags := 26, slot := 3, constantValue := 0 }, { name := "L_COUNT", type := .int, accessFlags := 26, slot := 4, constantValue := 0 }, { name := "V_COUNT", type := .int, accessFlags := 26, slot := 5, constantValue := 0 }, { name := "T_COUNT", type := .int, accessFlags := 26, slot := 6, constantValue := 0 }, { name := "N_COUNT", type := .int, accessFlags := 26, slot := 7, constantValue := 0 }, { name := "S_COUNT", type := .int, accessFlags := 26, slot := 8, constantValue := 0 }]
  methods := #[k2m0, k2m1]
  instanceTypes := #[]
  staticTypes := #[.int, .int, .int, .int, .int, .int, .int, .int, .int]
  resolved := Array.replicate 54 none
  statics := none }

def pool3 : Array CpInfo := pool [(1, u "java/lang/Cloneable"), (0, .class_ 1), (0, u "java/lang/Object"), (0, .class_ 3)] 3

/-- java/lang/Cloneable -/
def k3 : Class := { plain "java/lang/Cloneable" (some 0) with
  accessFlags := 1537
  interfaces := #[]
  cf := some (fileOf pool3 2 #[] #[] 1537 4 #[] #[])
  fields := #[]
  methods := #[]
  instanceTypes := #[]
  staticTypes := #[]
  resolved := Array.replicate 8 none
  statics := none }

def pool4 : Array CpInfo := pool [(1, u "java/io/Serializable"), (0, .class_ 1), (0, u "java/lang/Object"), (0, .class_ 3)] 3

/-- java/io/Serializable -/
def k4 : Class := { plain "java/io/Serializable" (some 0) with
  accessFlags := 1537
  interfaces := #[]
  cf := some (fileOf pool4 2 #[] #[] 1537 4 #[] #[])
  fields := #[]
  methods := #[]
  instanceTypes := #[]
  staticTypes := #[]
  resolved := Array.replicate 8 none
  statics := none }

/-- the primitive byte -/
def k5 : Class := { plain "byte" none with kind := .primitive 'B', accessFlags := 0x411 }
/-- [B -/
def k6 : Class := { plain "[B" (some 0) with kind := .array 5 .byte, interfaces := #[3, 4], accessFlags := 1041 }

/-- the primitive int -/
def k7 : Class := { plain "int" none with kind := .primitive 'I', accessFlags := 0x411 }
/-- [I -/
def k8 : Class := { plain "[I" (some 0) with kind := .array 7 .int, interfaces := #[3, 4], accessFlags := 1041 }

def heap : Heap := #[]
def classes : Array Class := #[k0, k1, k2, k3, k4, k5, k6, k7, k8]
def interned : List (Array UInt16 × Addr) := []
def slotsUsed : Nat := 0
def theMethod : MethodId := ⟨1, 1⟩
def args0 : Array Value := #[.int 5, .int 5, .int 5]
def aboutOver (below : List Frame) : State where
  vm := { classes := classes, interned := interned.toArray }
  heap := heap
  slotsUsed := slotsUsed
  threads := #[{ frames := .invoking theMethod args0 :: below }]
def below0 : List Frame := [.native { method := ⟨0, 0⟩, args := #[] }]
def about1 : State := aboutOver below0
def p0 : Program := .bare "" "" ""
def e0 : Env := launch0.env 0 0 0
theorem w_frames : about1.frames = Frame.invoking theMethod args0 :: below0 := rfl
set_option maxRecDepth 65536 in
theorem w_args : argsFit about1.vm theMethod args0 = true := by decide +kernel
set_option maxRecDepth 65536 in
theorem w_heap : heapFits about1 = true := by decide +kernel
set_option maxRecDepth 65536 in
theorem w_runnable : about1.curStatus? = some .runnable := by decide +kernel
set_option maxRecDepth 65536 in
theorem w_alone : about1.alone = true := by decide +kernel
set_option maxRecDepth 65536 in
theorem w_named : about1.methodNamed? x = some theMethod := by decide +kernel
set_option maxRecDepth 65536 in
theorem w_hears : about1.hears theMethod below0 = true := by decide +kernel
set_option maxRecDepth 65536 in
theorem w_ripe : about1.ripe theMethod args0 below0 = true := by decide +kernel
theorem w_running : about1.status = .running := rfl
set_option maxRecDepth 65536 in
theorem w_room : about1.hasRoom e0.platform room_1 = true :=
  launch0.hasRoom_least _ room_1 (by decide +kernel) (by decide +kernel) (by decide +kernel) (by decide +kernel) (by decide +kernel) (by decide +kernel)
theorem allAtoms_all (ts : List Jvm.Cond) (a : Array Jvm.Value) (st : Jvm.State) : (allAtoms ts).before a st = ts.all (fun c => c.before a st) := by
  induction ts with
  | nil => rfl
  | cons c t ih =>
    show (Jvm.Cond.and c (allAtoms t)).before a st = _
    rw [Jvm.Cond.before_and, ih, List.all_cons]
def words1 : List Jvm.Cond := Jvm.Cond.code x code maxLocals ret :: tables_1
/-- a 'code' word, met by the world's own term for the bytes: nothing is compared byte by byte -/
theorem code_word {y : MethodName} {bytes : ByteArray} {mx : Nat} {rt : Option FieldType} {a : Array Value} {s : State} {m : MethodId} {meth : Method} {c : Code} (h1 : s.methodNamed? y = some m) (h2 : s.vm.method? m = some meth) (h3 : meth.code = some c) (h4 : c.code = bytes)
    (h5 : (c.maxLocals == mx && c.exceptionTable.isEmpty && decide (c.maxStack ≤ mostOperands) && decide (meth.sig.returnType = rt) && !meth.locks && decide (parseMethodDescriptor y.desc = some meth.sig)) = true) : (Jvm.Cond.code y bytes mx rt).before a s = true := by
  simp only [Bool.and_eq_true, beq_iff_eq, Bool.not_eq_true', decide_eq_true_eq] at h5
  obtain ⟨⟨⟨⟨⟨g1, g2⟩, g3⟩, g4⟩, g5⟩, g6⟩ := h5
  simp [Cond.before, Cond.holds, Cond.value, h1, h2, h3, h4, g1, g2, g3, g4, g5, g6]
def isCode : Jvm.Cond → Bool
  | .code _ _ _ _ => true
  | _ => false
theorem all_split {L : List Jvm.Cond} {P : Jvm.Cond → Bool} (h1 : L.all (fun c => isCode c || P c) = true) (h2 : ∀ c ∈ L.filter isCode, P c = true) : L.all P = true := by
  refine List.all_eq_true.mpr fun c hc => ?_
  have h := List.all_eq_true.mp h1 c hc
  rcases Bool.eq_false_or_eq_true (isCode c) with hi | hi
  · exact h2 c (List.mem_filter.mpr ⟨hc, hi⟩)
  · simpa [hi] using h
set_option maxRecDepth 65536 in
theorem w_c0 : (Jvm.Cond.code x code maxLocals ret).before args0 about1 = true := code_word (m := ⟨1, 1⟩) (meth := k1m1) (c := k1c1) (by decide +kernel) rfl rfl rfl (by decide +kernel)
set_option maxRecDepth 65536 in
theorem w_c1 : (Jvm.Cond.code ({ cls := "com/example/pvalid/pvalid/unicode/Hangul", name := "compose", desc := "(II)I" } : Jvm.MethodName) prog_66_method_6_code (6 : Nat) (Option.some Jvm.ClassFile.FieldType.int)).before args0 about1 = true := code_word (m := ⟨2, 1⟩) (meth := k2m1) (c := k2c1) (by decide +kernel) rfl rfl rfl (by decide +kernel)
def codes1 : List Jvm.Cond := [Jvm.Cond.code x code maxLocals ret, Jvm.Cond.code ({ cls := "com/example/pvalid/pvalid/unicode/Hangul", name := "compose", desc := "(II)I" } : Jvm.MethodName) prog_66_method_6_code (6 : Nat) (Option.some Jvm.ClassFile.FieldType.int)]
set_option maxRecDepth 65536 in
theorem codes_eq : words1.filter isCode = codes1 := rfl
theorem w_codes : ∀ c ∈ words1.filter isCode, c.before args0 about1 = true := by
  rw [codes_eq]
  intro c hc
  simp only [codes1, List.mem_cons, List.not_mem_nil, or_false] at hc
  rcases hc with rfl | rfl
  · exact w_c0
  · exact w_c1
set_option maxRecDepth 65536 in
theorem w_t1 : words1.all (fun c => isCode c || c.before args0 about1) = true := by decide +kernel
theorem w_tables : (allAtoms (Jvm.Cond.code x code maxLocals ret :: tables_1)).before args0 about1 = true := by
  rw [allAtoms_all]
  show words1.all (fun c => c.before args0 about1) = true
  refine all_split ?_ w_codes
  rw [w_t1]
set_option maxRecDepth 65536 in
theorem w_case : (Jvm.Cond.and given_1 narrow_1).before args0 about1 = true := by decide +kernel
theorem w_applies : (headSpec (Jvm.Cond.code x code maxLocals ret :: tables_1) room_1).applies x e0.platform about1 = true :=
  (Spec.applies_iff w_frames).mpr ⟨w_running, w_runnable, w_alone, w_named, w_hears, w_ripe, w_room, w_tables⟩
theorem atStart : AtStart classFile x code maxLocals ret World_1 tables_1 room_1 Calls_1 rest_1 Pre_1 launch0 p0 e0 about1 theMethod args0 below0 :=
  ⟨lists_1, trivial, launch0.admits_env _ _ _, launch0.least_env, fairChoices_fair.cas, fairChoices_fair.clock, w_frames, w_args, w_heap, w_applies, trivial, trivial, w_case⟩
end start1
theorem witness_1 : WitnessClaimed_1 := ⟨start1.p0, start1.e0, start1.about1, start1.theMethod, start1.args0, start1.below0, start1.atStart⟩
end Jvm.Pilot.@@N@@
