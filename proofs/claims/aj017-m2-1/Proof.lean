import JvmDerived
import JvmDerived.Pilot.@@N@@Statement
import JvmDerived.Pilot.@@N@@Code
set_option linter.unusedVariables false
set_option linter.unusedSimpArgs false
@@BLOCK:NumsL.lean.txt@@
namespace Jvm.Pilot.@@N@@
open Jvm Jvm.ClassFile Sem Op Lib Jvm.Free Jvm.Stand Jvm.LawKit Jvm.RoadKit Bundle Jvm.Pilot.@@N@@.Jvm.D

/-! the walk's own small kit: from the frame g over the state T the body comes to its end, with Φ -/
def own_Go (p : Program) (e : Env) (below : List Frame) (T : State) (g : JFrame) (Φ : Outcome → State → Prop) : Prop :=
  ∃ s₂ o, Steps p.tables e below (T.setTop g) s₂ ∧ s₂.status = .running ∧ Ended s₂ below o ∧ Φ o s₂
def own_Fin (s : State) (Q : Option Value → Heap → List Loc → Prop) (k j : Nat) (o : Outcome) (U' : State) : Prop :=
  ∃ v L, o = .returned v ∧ Q v U'.heap L ∧ FrameEnd s o U' L k j
theorem own_by {p : Program} {e : Env} {below : List Frame} {T T' : State} {g g' : JFrame} {Φ : Outcome → State → Prop}
    (h : ∀ t, Steps p.tables e below (T'.setTop g') t → Steps p.tables e below (T.setTop g) t) (k : own_Go p e below T' g' Φ) : own_Go p e below T g Φ := by
  obtain ⟨s₂, o, h1, h2⟩ := k
  exact ⟨s₂, o, h _ h1, h2⟩
theorem own_start {p : Program} {e : Env} {below : List Frame} {s T : State} {g g' : JFrame} {Q : Option Value → Heap → List Loc → Prop} {k j : Nat} (hg : g = g')
    (h : own_Go p e below T g' (own_Fin s Q k j)) : ∃ s₂ o, Steps p.tables e below (T.setTop g) s₂ ∧ s₂.status = .running ∧ Ended s₂ below o ∧ ∃ v L, o = .returned v ∧ Q v s₂.heap L ∧ FrameEnd s o s₂ L k j := by
  subst hg
  exact h
section OwnRet
variable {p : Program} {l : Launch} {e : Env} {R : Room} {s : State} {m : MethodId} {args : Array Value} {below : List Frame} {meth : Method} {c : Code} {T : State} {locs : List Loc} {cells slots : Nat} {Q : Option Value → Heap → List Loc → Prop} {k j pc : Nat} {Ls : Array Slot} {rest : List Value}
theorem own_retN {t : FieldType} (ht : t = .boolean ∨ t = .byte ∨ t = .char ∨ t = .short) (X : Stand p l e R s m args below meth c T locs cells slots) (hx : p.tables.exec = Jvm.exec) (hret : meth.sig.returnType = some t) (hlk : meth.locks = false) {z : Int32} (hd : decode c.code pc = .ok (.ireturn, 1))
    (hz : nar t z = z) (hk : cells ≤ k) (hj : slots ≤ j) (q : Q (some (.int z)) T.heap locs) : own_Go p e below T (mkF m pc Ls (.int z :: rest)) (own_Fin s Q k j) := by
  obtain ⟨fs, hr, hrun, hended, hW, hsame⟩ := X.leave (v := some (.int z)) (fun h => by rw [hret] at h; cases h)
  exact ⟨_, _, retN X hx hret ht hd (by rw [hz]; exact hr), hrun, hended, _, _, rfl, q, ⟨_, rfl⟩, hW, hsame.mono hk hj⟩
theorem own_retZ (X : Stand p l e R s m args below meth c T locs cells slots) (hx : p.tables.exec = Jvm.exec) (hret : meth.sig.returnType = some .boolean) (hlk : meth.locks = false) {z : Int32} (hd : decode c.code pc = .ok (.ireturn, 1))
    (hz : nar .boolean z = z) (hk : cells ≤ k) (hj : slots ≤ j) (q : Q (some (.int z)) T.heap locs) : own_Go p e below T (mkF m pc Ls (.int z :: rest)) (own_Fin s Q k j) := own_retN (Or.inl rfl) X hx hret hlk hd hz hk hj q
theorem own_retI (X : Stand p l e R s m args below meth c T locs cells slots) (hx : p.tables.exec = Jvm.exec) (hret : meth.sig.returnType = some .int) (hlk : meth.locks = false) {z : Int32} (hd : decode c.code pc = .ok (.ireturn, 1))
    (hk : cells ≤ k) (hj : slots ≤ j) (q : Q (some (.int z)) T.heap locs) : own_Go p e below T (mkF m pc Ls (.int z :: rest)) (own_Fin s Q k j) := by
  obtain ⟨fs, hr, hrun, hended, hW, hsame⟩ := X.leave (v := some (.int z)) (fun h => by rw [hret] at h; cases h)
  exact ⟨_, _, retOut X hx hret rfl (Or.inl ⟨rfl, Or.inl rfl, z, rfl⟩) hd hr, hrun, hended, _, _, rfl, q, ⟨_, rfl⟩, hW, hsame.mono hk hj⟩
theorem own_retJ (X : Stand p l e R s m args below meth c T locs cells slots) (hx : p.tables.exec = Jvm.exec) (hret : meth.sig.returnType = some .long) (hlk : meth.locks = false) {z : Int64} (hd : decode c.code pc = .ok (.lreturn, 1))
    (hk : cells ≤ k) (hj : slots ≤ j) (q : Q (some (.long z)) T.heap locs) : own_Go p e below T (mkF m pc Ls (.long z :: rest)) (own_Fin s Q k j) := by
  obtain ⟨fs, hr, hrun, hended, hW, hsame⟩ := X.leave (v := some (.long z)) (fun h => by rw [hret] at h; cases h)
  exact ⟨_, _, retOut X hx hret rfl (Or.inr (Or.inl ⟨rfl, rfl, z, rfl⟩)) hd hr, hrun, hended, _, _, rfl, q, ⟨_, rfl⟩, hW, hsame.mono hk hj⟩
theorem own_retA {t : FieldType} (X : Stand p l e R s m args below meth c T locs cells slots) (hx : p.tables.exec = Jvm.exec) (hret : meth.sig.returnType = some t) (hlk : meth.locks = false) {z : Value} (hd : decode c.code pc = .ok (.areturn, 1))
    (ht : t.isReference = true) (hz : z.isRef = true) (hn : narrow t z = z) (hk : cells ≤ k) (hj : slots ≤ j) (q : Q (some z) T.heap locs) : own_Go p e below T (mkF m pc Ls (z :: rest)) (own_Fin s Q k j) := by
  obtain ⟨fs, hr, hrun, hended, hW, hsame⟩ := X.leave (v := some z) (fun h => by rw [hret] at h; cases h)
  exact ⟨_, _, retOut X hx hret hn (Or.inr (Or.inr (Or.inr (Or.inr ⟨rfl, ht, hz⟩)))) hd hr, hrun, hended, _, _, rfl, q, ⟨_, rfl⟩, hW, hsame.mono hk hj⟩
theorem own_retV (X : Stand p l e R s m args below meth c T locs cells slots) (hx : p.tables.exec = Jvm.exec) (hret : meth.sig.returnType = none) (hlk : meth.locks = false) (hd : decode c.code pc = .ok (.return_, 1))
    (hk : cells ≤ k) (hj : slots ≤ j) (q : Q none T.heap locs) : own_Go p e below T (mkF m pc Ls []) (own_Fin s Q k j) := by
  obtain ⟨fs, hr, hrun, hended, hW, hsame⟩ := X.leave (v := none) (fun _ => rfl)
  exact ⟨_, _, X.returnOut hx hret hd hr, hrun, hended, _, _, rfl, q, ⟨_, rfl⟩, hW, hsame.mono hk hj⟩
theorem own_lrem_eq (x y : Int64) : x - x / y * y = x % y := Int64.toInt_inj.mp (by rw [Jvm.Kit.i64_rem, Int64.toInt_mod])
theorem own_lrem {g : JFrame} {target : State} (X : Stand p l e R s m args below meth c T locs cells slots) (hx : p.tables.exec = Jvm.exec) (hg : g.method = m) {x y : Int64} {rest : List Value} (hd : decode c.code g.pc = .ok (.lrem, 1)) (hs : g.stack = .long y :: .long x :: rest) (hy : y ≠ 0)
    (hr : Steps p.tables e below (T.setTop { g with pc := g.pc + 1, stack := .long (x % y) :: rest }) target) : Steps p.tables e below (T.setTop g) target :=
  XS.lrem X.here hx hg hd hs hy (by rw [own_lrem_eq x y]; exact hr)
end OwnRet
/-! an array: its length, and what each place holds -/
abbrev own_At (j : Int32) (k : Nat) : Prop := ¬ j < 0 ∧ j.toNatClampNeg = k
def own_upd (f : Nat → Value) (k : Nat) (v : Value) : Nat → Value := fun i => if i = k then v else f i
theorem own_upd_hit {f : Nat → Value} {k i : Nat} {v : Value} (h : i = k) : own_upd f k v i = v := if_pos h
theorem own_upd_miss {f : Nat → Value} {k i : Nat} {v : Value} (h : ¬ i = k) : own_upd f k v i = f i := if_neg h
def own_Av (Z : State) (h : Heap) (a : Addr) (ty : FieldType) (n : Nat) (f : Nat → Value) : Prop := ∃ c : Cell, Arr Z h a c ty ∧ c.slots.size = n ∧ ∀ i, i < n → c.slots[i]? = some (f i)
section OwnArr
variable {Z : State} {h h' : Heap} {a b : Addr} {ty : FieldType} {n k sl : Nat} {f : Nat → Value} {v : Value} {ws : List Addr}
theorem own_Av.ext (F : own_Av Z h a ty n f) (E : Ext h h') : own_Av Z h' a ty n f := by obtain ⟨c, A, r⟩ := F; exact ⟨c, A.ext E, r⟩
theorem own_Av.other (F : own_Av Z h b ty n f) (W : Wr h h' a sl v) (q : b ≠ a) : own_Av Z h' b ty n f := by obtain ⟨c, A, r⟩ := F; exact ⟨c, A.other W q, r⟩
theorem own_Av.keep (F : own_Av Z h a ty n f) (K : Keep h h' ws) (q : a ∉ ws) : own_Av Z h' a ty n f := by obtain ⟨c, A, r⟩ := F; exact ⟨c, ⟨K.2.1 a c A.1 q, A.2⟩, r⟩
theorem own_Av.lt (F : own_Av Z h a ty n f) : a < h.size := by obtain ⟨c, A, -⟩ := F; exact A.lt
theorem own_Av.ofnew {z : Int32} {kc : ClassId} {d : Value} (A : Arr Z h a (newA kc ty z) ty) (hn : z.toNatClampNeg = n) (hd : defaultValue ty = d) : own_Av Z h a ty n (fun _ => d) := by
  subst hn hd
  exact ⟨_, A, sz_new _ _ _, fun i hi => by simp [newA, hi]⟩
theorem own_Av.set (F : own_Av Z h a ty n f) (W : Wr h h' a k v) : own_Av Z h' a ty n (own_upd f k v) := by
  obtain ⟨c, A, S, H⟩ := F
  refine ⟨_, A.same W, by rw [sz_set]; exact S, fun i hi => ?_⟩
  by_cases q : i = k
  · subst q
    rw [own_upd_hit rfl]
    simp [Cell.setSlot, S, hi]
  · rw [own_upd_miss q, ← H i hi]
    exact Array.getElem?_setIfInBounds_ne fun u => q u.symm
theorem own_Av.cong {g : Nat → Value} {n' : Nat} (F : own_Av Z h a ty n f) (hn : n = n') (q : ∀ i, i < n → f i = g i) : own_Av Z h a ty n' g := by
  subst hn
  obtain ⟨c, A, S, H⟩ := F
  exact ⟨c, A, S, fun i hi => by rw [← q i hi]; exact H i hi⟩
theorem own_in {j : Int32} (hj : own_At j k) (hk : k < n) {c : Cell} (S : c.slots.size = n) : ¬ (j < 0 ∨ c.slots.size ≤ j.toNatClampNeg) := by
  intro q
  rcases q with q | q
  · exact hj.1 q
  · rw [hj.2, S] at q; omega
variable {p : Program} {l : Launch} {e : Env} {R : Room} {s : State} {m : MethodId} {args : Array Value} {below : List Frame} {meth : Method} {c : Code} {T : State} {locs : List Loc} {cells slots : Nat}
theorem own_ldI (X : Stand p l e R s m args below meth c T locs cells slots) (hx : p.tables.exec = Jvm.exec) (hZ : Z.Warmed39 s.vm) (eT : T.heap = h) (F : own_Av Z h a .int n f) {j : Int32} (hj : own_At j k) (hk : k < n) (hv : f k = v)
    {g : JFrame} (hg : g.method = m) {rest : List Value} (hs : g.stack = .int j :: .ref a :: rest) (hd : decode c.code g.pc = .ok (.iaload, 1)) (t : State)
    (hr : Steps p.tables e below (T.setTop { g with pc := g.pc + 1, stack := v :: rest }) t) : Steps p.tables e below (T.setTop g) t := by
  obtain ⟨cl, A, S, H⟩ := F
  exact X.iaload hx (by rw [eT]; exact A.1) (State.isArrayOf_alike hZ.alike A.2.1) A.2.2 (own_in hj hk S) (by rw [hj.2, H k hk, hv]) hg hs hd t hr
theorem own_ldJ (X : Stand p l e R s m args below meth c T locs cells slots) (hx : p.tables.exec = Jvm.exec) (hZ : Z.Warmed39 s.vm) (eT : T.heap = h) (F : own_Av Z h a .long n f) {j : Int32} (hj : own_At j k) (hk : k < n) (hv : f k = v)
    {g : JFrame} (hg : g.method = m) {rest : List Value} (hs : g.stack = .int j :: .ref a :: rest) (hd : decode c.code g.pc = .ok (.laload, 1)) (t : State)
    (hr : Steps p.tables e below (T.setTop { g with pc := g.pc + 1, stack := v :: rest }) t) : Steps p.tables e below (T.setTop g) t := by
  obtain ⟨cl, A, S, H⟩ := F
  exact X.laload hx (by rw [eT]; exact A.1) (State.isArrayOf_alike hZ.alike A.2.1) A.2.2 (own_in hj hk S) (by rw [hj.2, H k hk, hv]) hg hs hd t hr
theorem own_ldS (X : Stand p l e R s m args below meth c T locs cells slots) (hx : p.tables.exec = Jvm.exec) (hZ : Z.Warmed39 s.vm) (eT : T.heap = h) (F : own_Av Z h a .short n f) {j : Int32} (hj : own_At j k) (hk : k < n) (hv : f k = v)
    {g : JFrame} (hg : g.method = m) {rest : List Value} (hs : g.stack = .int j :: .ref a :: rest) (hd : decode c.code g.pc = .ok (.saload, 1)) (t : State)
    (hr : Steps p.tables e below (T.setTop { g with pc := g.pc + 1, stack := v :: rest }) t) : Steps p.tables e below (T.setTop g) t := by
  obtain ⟨cl, A, S, H⟩ := F
  exact X.saload hx (by rw [eT]; exact A.1) (State.isArrayOf_alike hZ.alike A.2.1) A.2.2 (own_in hj hk S) (by rw [hj.2, H k hk, hv]) hg hs hd t hr
theorem own_ldC (X : Stand p l e R s m args below meth c T locs cells slots) (hx : p.tables.exec = Jvm.exec) (hZ : Z.Warmed39 s.vm) (eT : T.heap = h) (F : own_Av Z h a .char n f) {j : Int32} (hj : own_At j k) (hk : k < n) (hv : f k = v)
    {g : JFrame} (hg : g.method = m) {rest : List Value} (hs : g.stack = .int j :: .ref a :: rest) (hd : decode c.code g.pc = .ok (.caload, 1)) (t : State)
    (hr : Steps p.tables e below (T.setTop { g with pc := g.pc + 1, stack := v :: rest }) t) : Steps p.tables e below (T.setTop g) t := by
  obtain ⟨cl, A, S, H⟩ := F
  exact X.caload hx (by rw [eT]; exact A.1) (State.isArrayOf_alike hZ.alike A.2.1) A.2.2 (own_in hj hk S) (by rw [hj.2, H k hk, hv]) hg hs hd t hr
theorem own_ldB (X : Stand p l e R s m args below meth c T locs cells slots) (hx : p.tables.exec = Jvm.exec) (hZ : Z.Warmed39 s.vm) (eT : T.heap = h) (F : own_Av Z h a .byte n f) {j : Int32} (hj : own_At j k) (hk : k < n) (hv : f k = v)
    {g : JFrame} (hg : g.method = m) {rest : List Value} (hs : g.stack = .int j :: .ref a :: rest) (hd : decode c.code g.pc = .ok (.baload, 1)) (t : State)
    (hr : Steps p.tables e below (T.setTop { g with pc := g.pc + 1, stack := v :: rest }) t) : Steps p.tables e below (T.setTop g) t := by
  obtain ⟨cl, A, S, H⟩ := F
  exact X.baloadBytes hx (by rw [eT]; exact A.1) (State.isArrayOf_alike hZ.alike A.2.1) A.2.2 (own_in hj hk S) (by rw [hj.2, H k hk, hv]) hg hs hd t hr
theorem own_ldZ (X : Stand p l e R s m args below meth c T locs cells slots) (hx : p.tables.exec = Jvm.exec) (hZ : Z.Warmed39 s.vm) (eT : T.heap = h) (F : own_Av Z h a .boolean n f) {j : Int32} (hj : own_At j k) (hk : k < n) (hv : f k = v)
    {g : JFrame} (hg : g.method = m) {rest : List Value} (hs : g.stack = .int j :: .ref a :: rest) (hd : decode c.code g.pc = .ok (.baload, 1)) (t : State)
    (hr : Steps p.tables e below (T.setTop { g with pc := g.pc + 1, stack := v :: rest }) t) : Steps p.tables e below (T.setTop g) t := by
  obtain ⟨cl, A, S, H⟩ := F
  exact X.baloadBooleans hx (by rw [eT]; exact A.1) (State.isArrayOf_alike hZ.alike A.2.1) A.2.2 (own_in hj hk S) (by rw [hj.2, H k hk, hv]) hg hs hd t hr
theorem own_len (X : Stand p l e R s m args below meth c T locs cells slots) (hx : p.tables.exec = Jvm.exec) (hZ : Z.Warmed39 s.vm) (eT : T.heap = h) (F : own_Av Z h a ty n f) {z : Int32} (hz : n.toInt32 = z)
    {g : JFrame} (hg : g.method = m) {rest : List Value} (hs : g.stack = .ref a :: rest) (hd : decode c.code g.pc = .ok (.arraylength, 1)) (t : State)
    (hr : Steps p.tables e below (T.setTop { g with pc := g.pc + 1, stack := .int z :: rest }) t) : Steps p.tables e below (T.setTop g) t := by
  obtain ⟨cl, A, S, H⟩ := F
  exact X.arraylength hx (by rw [eT]; exact A.1) (State.isArrayOf_alike hZ.alike A.2.1) hg hs hd t (by rw [S, hz]; exact hr)
theorem own_stI (X : Stand p l e R s m args below meth c T locs cells slots) (hx : p.tables.exec = Jvm.exec) (hZ : Z.Warmed39 s.vm) (eT : T.heap = h) (F : own_Av Z h a .int n f) {j x : Int32} (hj : own_At j k) (hk : k < n)
    {g : JFrame} (hg : g.method = m) {rest : List Value} (hs : g.stack = .int x :: .int j :: .ref a :: rest) (hd : decode c.code g.pc = .ok (.iastore, 1)) :
    ∃ T' h', Stand p l e R s m args below meth c T' (locs ++ [⟨a, k⟩]) cells slots ∧ T'.heap = h' ∧ Wr h h' a k (.int x) ∧ own_Av Z h' a .int n (own_upd f k (.int x)) ∧ ∀ target, Steps p.tables e below (T'.setTop { g with pc := g.pc + 1, stack := rest }) target → Steps p.tables e below (T.setTop g) target := by
  obtain ⟨cl, A, S, H⟩ := id F
  obtain ⟨T', h', X', e', W', st⟩ := stI X hx hZ eT A (own_in hj hk S) hg hs hd
  rw [hj.2] at X' W'
  exact ⟨T', h', X', e', W', F.set W', st⟩
theorem own_stJ (X : Stand p l e R s m args below meth c T locs cells slots) (hx : p.tables.exec = Jvm.exec) (hZ : Z.Warmed39 s.vm) (eT : T.heap = h) (F : own_Av Z h a .long n f) {j : Int32} {x : Int64} (hj : own_At j k) (hk : k < n)
    {g : JFrame} (hg : g.method = m) {rest : List Value} (hs : g.stack = .long x :: .int j :: .ref a :: rest) (hd : decode c.code g.pc = .ok (.lastore, 1)) :
    ∃ T' h', Stand p l e R s m args below meth c T' (locs ++ [⟨a, k⟩]) cells slots ∧ T'.heap = h' ∧ Wr h h' a k (.long x) ∧ own_Av Z h' a .long n (own_upd f k (.long x)) ∧ ∀ target, Steps p.tables e below (T'.setTop { g with pc := g.pc + 1, stack := rest }) target → Steps p.tables e below (T.setTop g) target := by
  obtain ⟨cl, A, S, H⟩ := id F
  obtain ⟨T', h', X', e', W', st⟩ := stJ X hx hZ eT A (own_in hj hk S) hg hs hd
  rw [hj.2] at X' W'
  exact ⟨T', h', X', e', W', F.set W', st⟩
theorem own_stB (X : Stand p l e R s m args below meth c T locs cells slots) (hx : p.tables.exec = Jvm.exec) (hZ : Z.Warmed39 s.vm) (eT : T.heap = h) (F : own_Av Z h a .byte n f) {j x : Int32} (hj : own_At j k) (hk : k < n)
    {g : JFrame} (hg : g.method = m) {rest : List Value} (hs : g.stack = .int x :: .int j :: .ref a :: rest) (hd : decode c.code g.pc = .ok (.bastore, 1)) :
    ∃ T' h', Stand p l e R s m args below meth c T' (locs ++ [⟨a, k⟩]) cells slots ∧ T'.heap = h' ∧ Wr h h' a k (.int x.toInt8.toInt32) ∧ own_Av Z h' a .byte n (own_upd f k (.int x.toInt8.toInt32)) ∧ ∀ target, Steps p.tables e below (T'.setTop { g with pc := g.pc + 1, stack := rest }) target → Steps p.tables e below (T.setTop g) target := by
  obtain ⟨cl, A, S, H⟩ := id F
  obtain ⟨T', h', X', e', W', st⟩ := stB X hx hZ eT A (own_in hj hk S) hg hs hd
  rw [hj.2] at X' W'
  exact ⟨T', h', X', e', W', F.set W', st⟩
theorem own_stZ (X : Stand p l e R s m args below meth c T locs cells slots) (hx : p.tables.exec = Jvm.exec) (hZ : Z.Warmed39 s.vm) (eT : T.heap = h) (F : own_Av Z h a .boolean n f) {j x : Int32} (hj : own_At j k) (hk : k < n)
    {g : JFrame} (hg : g.method = m) {rest : List Value} (hs : g.stack = .int x :: .int j :: .ref a :: rest) (hd : decode c.code g.pc = .ok (.bastore, 1)) :
    ∃ T' h', Stand p l e R s m args below meth c T' (locs ++ [⟨a, k⟩]) cells slots ∧ T'.heap = h' ∧ Wr h h' a k (.int (x &&& 1)) ∧ own_Av Z h' a .boolean n (own_upd f k (.int (x &&& 1))) ∧ ∀ target, Steps p.tables e below (T'.setTop { g with pc := g.pc + 1, stack := rest }) target → Steps p.tables e below (T.setTop g) target := by
  obtain ⟨cl, A, S, H⟩ := id F
  obtain ⟨T', h', X', e', W', st⟩ := stZ X hx hZ eT A (own_in hj hk S) hg hs hd
  rw [hj.2] at X' W'
  exact ⟨T', h', X', e', W', F.set W', st⟩
theorem own_stC (X : Stand p l e R s m args below meth c T locs cells slots) (hx : p.tables.exec = Jvm.exec) (hZ : Z.Warmed39 s.vm) (eT : T.heap = h) (F : own_Av Z h a .char n f) {j x : Int32} (hj : own_At j k) (hk : k < n)
    {g : JFrame} (hg : g.method = m) {rest : List Value} (hs : g.stack = .int x :: .int j :: .ref a :: rest) (hd : decode c.code g.pc = .ok (.castore, 1)) :
    ∃ T' h', Stand p l e R s m args below meth c T' (locs ++ [⟨a, k⟩]) cells slots ∧ T'.heap = h' ∧ Wr h h' a k (.int (nar .char x)) ∧ own_Av Z h' a .char n (own_upd f k (.int (nar .char x))) ∧ ∀ target, Steps p.tables e below (T'.setTop { g with pc := g.pc + 1, stack := rest }) target → Steps p.tables e below (T.setTop g) target := by
  obtain ⟨cl, A, S, H⟩ := id F
  obtain ⟨T', h', X', e', W', st⟩ := stC X hx hZ eT A (own_in hj hk S) hg hs hd
  rw [hj.2] at X' W'
  exact ⟨T', h', X', e', W', F.set W', st⟩
theorem own_stS (X : Stand p l e R s m args below meth c T locs cells slots) (hx : p.tables.exec = Jvm.exec) (hZ : Z.Warmed39 s.vm) (eT : T.heap = h) (F : own_Av Z h a .short n f) {j x : Int32} (hj : own_At j k) (hk : k < n)
    {g : JFrame} (hg : g.method = m) {rest : List Value} (hs : g.stack = .int x :: .int j :: .ref a :: rest) (hd : decode c.code g.pc = .ok (.sastore, 1)) :
    ∃ T' h', Stand p l e R s m args below meth c T' (locs ++ [⟨a, k⟩]) cells slots ∧ T'.heap = h' ∧ Wr h h' a k (.int (nar .short x)) ∧ own_Av Z h' a .short n (own_upd f k (.int (nar .short x))) ∧ ∀ target, Steps p.tables e below (T'.setTop { g with pc := g.pc + 1, stack := rest }) target → Steps p.tables e below (T.setTop g) target := by
  obtain ⟨cl, A, S, H⟩ := id F
  obtain ⟨T', h', X', e', W', st⟩ := stS X hx hZ eT A (own_in hj hk S) hg hs hd
  rw [hj.2] at X' W'
  exact ⟨T', h', X', e', W', F.set W', st⟩
end OwnArr
theorem own_selP {Z s : State} {a0 args : Array Value} {y : MethodName} {n : Nat} (hZ : Z.Warmed39 s.vm) (wi : (Cond.instantiable y.cls n).before a0 Z = true) (wp : (Cond.privateMethod y).before a0 Z = true) (wm : (Cond.instanceMethod y).before a0 Z = true)
    (hy : y.cls ≠ "java/lang/invoke/MethodHandle" ∧ y.cls ≠ "java/lang/invoke/VarHandle") : (Cond.selects y.cls y y).before args s = true := by
  have w : (Cond.instantiable y.cls n).before args s = true := mvT hZ wi
  obtain ⟨c, k, h1, h2, -, h4, -⟩ := Cond.instantiable_spec w
  exact Jvm.Stand.selects_self_of_private h1 h2 (Bool.or_eq_false_iff.mp h4).1 (Cond.privateMethod_at (mvP hZ wp (args := args))) (mvT hZ wm) hy
theorem own_narZ {x : Int32} (h : x &&& 1 = x) : narrow .boolean (.int x) = .int x := by
  show Value.int (x &&& 1) = _
  rw [h]
theorem own_fitZ {x : Int32} (h : x &&& 1 = x) : fits .boolean (.int x) = true := by
  have q := fits_nar_bool x
  rw [show nar .boolean x = x from h] at q
  exact q
theorem own_mono {p : Program} {e : Env} {below : List Frame} {s T : State} {g : JFrame} {Q Q' : Option Value → Heap → List Loc → Prop} {k j : Nat} (h : ∀ v h L, Q v h L → Q' v h L) (G : own_Go p e below T g (own_Fin s Q k j)) : own_Go p e below T g (own_Fin s Q' k j) := by
  obtain ⟨s₂, o, h1, h2, h3, v, L, h4, h5, h6⟩ := G
  exact ⟨s₂, o, h1, h2, h3, v, L, h4, h _ _ _ h5, h6⟩
theorem own_ofs (i : Nat) : Int32.ofNat i + (1 : Int32) = Int32.ofNat (i + 1) := (Int32.ofNat_add i 1).symm
theorem own_toI {i : Nat} (h : i < 2147483648) : (Int32.ofNat i).toInt = i := Int32.toInt_ofNat_small h
theorem own_ix {i : Nat} (h : i < 2147483648) : own_At (Int32.ofNat i) i := by
  have e := own_toI h
  refine ⟨?_, ?_⟩
  · rw [Int32.lt_iff_toInt_lt, e, show (0 : Int32).toInt = 0 from by decide]; omega
  · simp only [Int32.toNatClampNeg, e]; omega
theorem own_oflt {i n : Nat} (hi : i < 2147483648) (hn : n < 2147483648) : Int32.ofNat i < Int32.ofNat n ↔ i < n := by
  rw [Int32.lt_iff_toInt_lt, own_toI hi, own_toI hn]; omega
theorem own_ofeq {i n : Nat} (hi : i < 2147483648) (hn : n < 2147483648) : Int32.ofNat i = Int32.ofNat n ↔ i = n := by
  rw [← Int32.toInt_inj, own_toI hi, own_toI hn]; omega
def own_fl (F : Nat → Int32) (i : Nat) (g : Nat → Value) (j : Nat) : Value := if j < i then .int (F j) else g j
theorem own_fl_up (F : Nat → Int32) (i : Nat) (g : Nat → Value) : ∀ j, own_upd (own_fl F i g) i (.int (F i)) j = own_fl F (i + 1) g j := fun j => by
  unfold own_fl
  by_cases q : j = i
  · subst q; rw [own_upd_hit rfl, if_pos (by omega)]
  · rw [own_upd_miss q]
    by_cases q2 : j < i
    · rw [if_pos q2, if_pos (by omega)]
    · rw [if_neg q2, if_neg (by omega)]
theorem own_fl0 (F : Nat → Int32) (g : Nat → Value) : ∀ j, g j = own_fl F 0 g j := fun j => by unfold own_fl; rw [if_neg (by omega)]
theorem own_fl_in {F : Nat → Int32} {i j : Nat} {g : Nat → Value} (h : j < i) : own_fl F i g j = .int (F j) := if_pos h
theorem own_fl_out {F : Nat → Int32} {i j : Nat} {g : Nat → Value} (h : ¬ j < i) : own_fl F i g j = g j := if_neg h

/-! single steps over own_Go -/
theorem own_s_iadd {p : Program} {e : Env} {below : List Frame} {T : State} {m : MethodId} {c : Code} {Φ : Outcome → State → Prop} {pc : Nat} {L : Array Slot} {S : List Value} (h : At T m c below) (hx : p.tables.exec = Jvm.exec) {x y : Int32} (hd : decode c.code pc = .ok (.iadd, 1)) (G : own_Go p e below T (mkF m (pc + 1) L (.int (x + y) :: S)) Φ) : own_Go p e below T (mkF m pc L (.int y :: .int x :: S)) Φ := own_by (fun t k => XS.iadd h hx rfl hd rfl k) G
theorem own_s_isub {p : Program} {e : Env} {below : List Frame} {T : State} {m : MethodId} {c : Code} {Φ : Outcome → State → Prop} {pc : Nat} {L : Array Slot} {S : List Value} (h : At T m c below) (hx : p.tables.exec = Jvm.exec) {x y : Int32} (hd : decode c.code pc = .ok (.isub, 1)) (G : own_Go p e below T (mkF m (pc + 1) L (.int (x - y) :: S)) Φ) : own_Go p e below T (mkF m pc L (.int y :: .int x :: S)) Φ := own_by (fun t k => XS.isub h hx rfl hd rfl k) G
theorem own_s_imul {p : Program} {e : Env} {below : List Frame} {T : State} {m : MethodId} {c : Code} {Φ : Outcome → State → Prop} {pc : Nat} {L : Array Slot} {S : List Value} (h : At T m c below) (hx : p.tables.exec = Jvm.exec) {x y : Int32} (hd : decode c.code pc = .ok (.imul, 1)) (G : own_Go p e below T (mkF m (pc + 1) L (.int (x * y) :: S)) Φ) : own_Go p e below T (mkF m pc L (.int y :: .int x :: S)) Φ := own_by (fun t k => XS.imul h hx rfl hd rfl k) G
theorem own_s_iand {p : Program} {e : Env} {below : List Frame} {T : State} {m : MethodId} {c : Code} {Φ : Outcome → State → Prop} {pc : Nat} {L : Array Slot} {S : List Value} (h : At T m c below) (hx : p.tables.exec = Jvm.exec) {x y : Int32} (hd : decode c.code pc = .ok (.iand, 1)) (G : own_Go p e below T (mkF m (pc + 1) L (.int (x &&& y) :: S)) Φ) : own_Go p e below T (mkF m pc L (.int y :: .int x :: S)) Φ := own_by (fun t k => XS.iand h hx rfl hd rfl k) G
theorem own_s_ior {p : Program} {e : Env} {below : List Frame} {T : State} {m : MethodId} {c : Code} {Φ : Outcome → State → Prop} {pc : Nat} {L : Array Slot} {S : List Value} (h : At T m c below) (hx : p.tables.exec = Jvm.exec) {x y : Int32} (hd : decode c.code pc = .ok (.ior, 1)) (G : own_Go p e below T (mkF m (pc + 1) L (.int (x ||| y) :: S)) Φ) : own_Go p e below T (mkF m pc L (.int y :: .int x :: S)) Φ := own_by (fun t k => XS.ior h hx rfl hd rfl k) G
theorem own_s_ixor {p : Program} {e : Env} {below : List Frame} {T : State} {m : MethodId} {c : Code} {Φ : Outcome → State → Prop} {pc : Nat} {L : Array Slot} {S : List Value} (h : At T m c below) (hx : p.tables.exec = Jvm.exec) {x y : Int32} (hd : decode c.code pc = .ok (.ixor, 1)) (G : own_Go p e below T (mkF m (pc + 1) L (.int (x ^^^ y) :: S)) Φ) : own_Go p e below T (mkF m pc L (.int y :: .int x :: S)) Φ := own_by (fun t k => XS.ixor h hx rfl hd rfl k) G
theorem own_s_ladd {p : Program} {e : Env} {below : List Frame} {T : State} {m : MethodId} {c : Code} {Φ : Outcome → State → Prop} {pc : Nat} {L : Array Slot} {S : List Value} (h : At T m c below) (hx : p.tables.exec = Jvm.exec) {x y : Int64} (hd : decode c.code pc = .ok (.ladd, 1)) (G : own_Go p e below T (mkF m (pc + 1) L (.long (x + y) :: S)) Φ) : own_Go p e below T (mkF m pc L (.long y :: .long x :: S)) Φ := own_by (fun t k => XS.ladd h hx rfl hd rfl k) G
theorem own_s_lsub {p : Program} {e : Env} {below : List Frame} {T : State} {m : MethodId} {c : Code} {Φ : Outcome → State → Prop} {pc : Nat} {L : Array Slot} {S : List Value} (h : At T m c below) (hx : p.tables.exec = Jvm.exec) {x y : Int64} (hd : decode c.code pc = .ok (.lsub, 1)) (G : own_Go p e below T (mkF m (pc + 1) L (.long (x - y) :: S)) Φ) : own_Go p e below T (mkF m pc L (.long y :: .long x :: S)) Φ := own_by (fun t k => XS.lsub h hx rfl hd rfl k) G
theorem own_s_lmul {p : Program} {e : Env} {below : List Frame} {T : State} {m : MethodId} {c : Code} {Φ : Outcome → State → Prop} {pc : Nat} {L : Array Slot} {S : List Value} (h : At T m c below) (hx : p.tables.exec = Jvm.exec) {x y : Int64} (hd : decode c.code pc = .ok (.lmul, 1)) (G : own_Go p e below T (mkF m (pc + 1) L (.long (x * y) :: S)) Φ) : own_Go p e below T (mkF m pc L (.long y :: .long x :: S)) Φ := own_by (fun t k => XS.lmul h hx rfl hd rfl k) G
theorem own_s_land {p : Program} {e : Env} {below : List Frame} {T : State} {m : MethodId} {c : Code} {Φ : Outcome → State → Prop} {pc : Nat} {L : Array Slot} {S : List Value} (h : At T m c below) (hx : p.tables.exec = Jvm.exec) {x y : Int64} (hd : decode c.code pc = .ok (.land, 1)) (G : own_Go p e below T (mkF m (pc + 1) L (.long (x &&& y) :: S)) Φ) : own_Go p e below T (mkF m pc L (.long y :: .long x :: S)) Φ := own_by (fun t k => XS.land h hx rfl hd rfl k) G
theorem own_s_lor {p : Program} {e : Env} {below : List Frame} {T : State} {m : MethodId} {c : Code} {Φ : Outcome → State → Prop} {pc : Nat} {L : Array Slot} {S : List Value} (h : At T m c below) (hx : p.tables.exec = Jvm.exec) {x y : Int64} (hd : decode c.code pc = .ok (.lor, 1)) (G : own_Go p e below T (mkF m (pc + 1) L (.long (x ||| y) :: S)) Φ) : own_Go p e below T (mkF m pc L (.long y :: .long x :: S)) Φ := own_by (fun t k => XS.lor h hx rfl hd rfl k) G
theorem own_s_lxor {p : Program} {e : Env} {below : List Frame} {T : State} {m : MethodId} {c : Code} {Φ : Outcome → State → Prop} {pc : Nat} {L : Array Slot} {S : List Value} (h : At T m c below) (hx : p.tables.exec = Jvm.exec) {x y : Int64} (hd : decode c.code pc = .ok (.lxor, 1)) (G : own_Go p e below T (mkF m (pc + 1) L (.long (x ^^^ y) :: S)) Φ) : own_Go p e below T (mkF m pc L (.long y :: .long x :: S)) Φ := own_by (fun t k => XS.lxor h hx rfl hd rfl k) G
theorem own_s_ishl {p : Program} {e : Env} {below : List Frame} {T : State} {m : MethodId} {c : Code} {Φ : Outcome → State → Prop} {pc : Nat} {L : Array Slot} {S : List Value} (h : At T m c below) (hx : p.tables.exec = Jvm.exec) {x y : Int32} (hd : decode c.code pc = .ok (.ishl, 1)) (G : own_Go p e below T (mkF m (pc + 1) L (.int (x <<< (y &&& 31)) :: S)) Φ) : own_Go p e below T (mkF m pc L (.int y :: .int x :: S)) Φ := own_by (fun t k => XS.ishl h hx rfl hd rfl k) G
theorem own_s_ishr {p : Program} {e : Env} {below : List Frame} {T : State} {m : MethodId} {c : Code} {Φ : Outcome → State → Prop} {pc : Nat} {L : Array Slot} {S : List Value} (h : At T m c below) (hx : p.tables.exec = Jvm.exec) {x y : Int32} (hd : decode c.code pc = .ok (.ishr, 1)) (G : own_Go p e below T (mkF m (pc + 1) L (.int (x >>> (y &&& 31)) :: S)) Φ) : own_Go p e below T (mkF m pc L (.int y :: .int x :: S)) Φ := own_by (fun t k => XS.ishr h hx rfl hd rfl k) G
theorem own_s_iushr {p : Program} {e : Env} {below : List Frame} {T : State} {m : MethodId} {c : Code} {Φ : Outcome → State → Prop} {pc : Nat} {L : Array Slot} {S : List Value} (h : At T m c below) (hx : p.tables.exec = Jvm.exec) {x y : Int32} (hd : decode c.code pc = .ok (.iushr, 1)) (G : own_Go p e below T (mkF m (pc + 1) L (.int ((x.toUInt32 >>> (y &&& 31).toUInt32).toInt32) :: S)) Φ) : own_Go p e below T (mkF m pc L (.int y :: .int x :: S)) Φ := own_by (fun t k => XS.iushr h hx rfl hd rfl k) G
theorem own_s_lshl {p : Program} {e : Env} {below : List Frame} {T : State} {m : MethodId} {c : Code} {Φ : Outcome → State → Prop} {pc : Nat} {L : Array Slot} {S : List Value} (h : At T m c below) (hx : p.tables.exec = Jvm.exec) {x : Int64} {y : Int32} (hd : decode c.code pc = .ok (.lshl, 1)) (G : own_Go p e below T (mkF m (pc + 1) L (.long (x <<< (y &&& 0x3f).toInt64) :: S)) Φ) : own_Go p e below T (mkF m pc L (.int y :: .long x :: S)) Φ := own_by (fun t k => XS.lshl h hx rfl hd rfl k) G
theorem own_s_lshr {p : Program} {e : Env} {below : List Frame} {T : State} {m : MethodId} {c : Code} {Φ : Outcome → State → Prop} {pc : Nat} {L : Array Slot} {S : List Value} (h : At T m c below) (hx : p.tables.exec = Jvm.exec) {x : Int64} {y : Int32} (hd : decode c.code pc = .ok (.lshr, 1)) (G : own_Go p e below T (mkF m (pc + 1) L (.long (x >>> (y &&& 0x3f).toInt64) :: S)) Φ) : own_Go p e below T (mkF m pc L (.int y :: .long x :: S)) Φ := own_by (fun t k => XS.lshr h hx rfl hd rfl k) G
theorem own_s_lushr {p : Program} {e : Env} {below : List Frame} {T : State} {m : MethodId} {c : Code} {Φ : Outcome → State → Prop} {pc : Nat} {L : Array Slot} {S : List Value} (h : At T m c below) (hx : p.tables.exec = Jvm.exec) {x : Int64} {y : Int32} (hd : decode c.code pc = .ok (.lushr, 1)) (G : own_Go p e below T (mkF m (pc + 1) L (.long ((x.toUInt64 >>> (y &&& 0x3f).toInt64.toUInt64).toInt64) :: S)) Φ) : own_Go p e below T (mkF m pc L (.int y :: .long x :: S)) Φ := own_by (fun t k => XS.lushr h hx rfl hd rfl k) G
theorem own_s_ineg {p : Program} {e : Env} {below : List Frame} {T : State} {m : MethodId} {c : Code} {Φ : Outcome → State → Prop} {pc : Nat} {L : Array Slot} {S : List Value} (h : At T m c below) (hx : p.tables.exec = Jvm.exec) {x : Int32} (hd : decode c.code pc = .ok (.ineg, 1)) (G : own_Go p e below T (mkF m (pc + 1) L (.int (-x) :: S)) Φ) : own_Go p e below T (mkF m pc L (.int x :: S)) Φ := own_by (fun t k => XS.ineg h hx rfl hd rfl k) G
theorem own_s_lneg {p : Program} {e : Env} {below : List Frame} {T : State} {m : MethodId} {c : Code} {Φ : Outcome → State → Prop} {pc : Nat} {L : Array Slot} {S : List Value} (h : At T m c below) (hx : p.tables.exec = Jvm.exec) {x : Int64} (hd : decode c.code pc = .ok (.lneg, 1)) (G : own_Go p e below T (mkF m (pc + 1) L (.long (-x) :: S)) Φ) : own_Go p e below T (mkF m pc L (.long x :: S)) Φ := own_by (fun t k => XS.lneg h hx rfl hd rfl k) G
theorem own_s_i2l {p : Program} {e : Env} {below : List Frame} {T : State} {m : MethodId} {c : Code} {Φ : Outcome → State → Prop} {pc : Nat} {L : Array Slot} {S : List Value} (h : At T m c below) (hx : p.tables.exec = Jvm.exec) {x : Int32} (hd : decode c.code pc = .ok (.i2l, 1)) (G : own_Go p e below T (mkF m (pc + 1) L (.long (x.toInt64) :: S)) Φ) : own_Go p e below T (mkF m pc L (.int x :: S)) Φ := own_by (fun t k => XS.i2l h hx rfl hd rfl k) G
theorem own_s_l2i {p : Program} {e : Env} {below : List Frame} {T : State} {m : MethodId} {c : Code} {Φ : Outcome → State → Prop} {pc : Nat} {L : Array Slot} {S : List Value} (h : At T m c below) (hx : p.tables.exec = Jvm.exec) {x : Int64} (hd : decode c.code pc = .ok (.l2i, 1)) (G : own_Go p e below T (mkF m (pc + 1) L (.int (x.toInt32) :: S)) Φ) : own_Go p e below T (mkF m pc L (.long x :: S)) Φ := own_by (fun t k => XS.l2i h hx rfl hd rfl k) G
theorem own_s_i2b {p : Program} {e : Env} {below : List Frame} {T : State} {m : MethodId} {c : Code} {Φ : Outcome → State → Prop} {pc : Nat} {L : Array Slot} {S : List Value} (h : At T m c below) (hx : p.tables.exec = Jvm.exec) {x : Int32} (hd : decode c.code pc = .ok (.i2b, 1)) (G : own_Go p e below T (mkF m (pc + 1) L (.int (x.toInt8.toInt32) :: S)) Φ) : own_Go p e below T (mkF m pc L (.int x :: S)) Φ := own_by (fun t k => XS.i2b h hx rfl hd rfl k) G
theorem own_s_i2s {p : Program} {e : Env} {below : List Frame} {T : State} {m : MethodId} {c : Code} {Φ : Outcome → State → Prop} {pc : Nat} {L : Array Slot} {S : List Value} (h : At T m c below) (hx : p.tables.exec = Jvm.exec) {x : Int32} (hd : decode c.code pc = .ok (.i2s, 1)) (G : own_Go p e below T (mkF m (pc + 1) L (.int (x.toInt16.toInt32) :: S)) Φ) : own_Go p e below T (mkF m pc L (.int x :: S)) Φ := own_by (fun t k => XS.i2s h hx rfl hd rfl k) G
theorem own_s_i2c {p : Program} {e : Env} {below : List Frame} {T : State} {m : MethodId} {c : Code} {Φ : Outcome → State → Prop} {pc : Nat} {L : Array Slot} {S : List Value} (h : At T m c below) (hx : p.tables.exec = Jvm.exec) {x : Int32} (hd : decode c.code pc = .ok (.i2c, 1)) (G : own_Go p e below T (mkF m (pc + 1) L (.int (x.toUInt32.toUInt16.toUInt32.toInt32) :: S)) Φ) : own_Go p e below T (mkF m pc L (.int x :: S)) Φ := own_by (fun t k => XS.i2c h hx rfl hd rfl k) G
theorem own_s_iloadN {p : Program} {e : Env} {below : List Frame} {T : State} {m : MethodId} {c : Code} {Φ : Outcome → State → Prop} {pc : Nat} {L : Array Slot} {S : List Value} (h : At T m c below) (hx : p.tables.exec = Jvm.exec) {i : Fin 4} {v : Int32} (hd : decode c.code pc = .ok (.iload_n i, 1)) (hl : L[i.val]? = some (.val (.int v))) (G : own_Go p e below T (mkF m (pc + 1) L (.int v :: S)) Φ) : own_Go p e below T (mkF m pc L S) Φ := own_by (fun t k => XS.iloadN h hx rfl hd hl k) G
theorem own_s_iload {p : Program} {e : Env} {below : List Frame} {T : State} {m : MethodId} {c : Code} {Φ : Outcome → State → Prop} {pc : Nat} {L : Array Slot} {S : List Value} (h : At T m c below) (hx : p.tables.exec = Jvm.exec) {i : Nat} {v : Int32} (hd : decode c.code pc = .ok (.iload i, 2)) (hl : L[i]? = some (.val (.int v))) (G : own_Go p e below T (mkF m (pc + 2) L (.int v :: S)) Φ) : own_Go p e below T (mkF m pc L S) Φ := own_by (fun t k => XS.iload h hx rfl hd hl k) G
theorem own_s_lloadN {p : Program} {e : Env} {below : List Frame} {T : State} {m : MethodId} {c : Code} {Φ : Outcome → State → Prop} {pc : Nat} {L : Array Slot} {S : List Value} (h : At T m c below) (hx : p.tables.exec = Jvm.exec) {i : Fin 4} {v : Int64} (hd : decode c.code pc = .ok (.lload_n i, 1)) (hl : L[i.val]? = some (.val (.long v))) (G : own_Go p e below T (mkF m (pc + 1) L (.long v :: S)) Φ) : own_Go p e below T (mkF m pc L S) Φ := own_by (fun t k => XS.lloadN h hx rfl hd hl k) G
theorem own_s_lload {p : Program} {e : Env} {below : List Frame} {T : State} {m : MethodId} {c : Code} {Φ : Outcome → State → Prop} {pc : Nat} {L : Array Slot} {S : List Value} (h : At T m c below) (hx : p.tables.exec = Jvm.exec) {i : Nat} {v : Int64} (hd : decode c.code pc = .ok (.lload i, 2)) (hl : L[i]? = some (.val (.long v))) (G : own_Go p e below T (mkF m (pc + 2) L (.long v :: S)) Φ) : own_Go p e below T (mkF m pc L S) Φ := own_by (fun t k => XS.lload h hx rfl hd hl k) G
theorem own_s_aloadN {p : Program} {e : Env} {below : List Frame} {T : State} {m : MethodId} {c : Code} {Φ : Outcome → State → Prop} {pc : Nat} {L : Array Slot} {S : List Value} (h : At T m c below) (hx : p.tables.exec = Jvm.exec) {i : Fin 4} {v : Value} (hd : decode c.code pc = .ok (.aload_n i, 1)) (hl : L[i.val]? = some (.val v)) (hv : v.isRef = true) (G : own_Go p e below T (mkF m (pc + 1) L (v :: S)) Φ) : own_Go p e below T (mkF m pc L S) Φ := own_by (fun t k => XS.aloadN h hx rfl hd hl hv k) G
theorem own_s_aload {p : Program} {e : Env} {below : List Frame} {T : State} {m : MethodId} {c : Code} {Φ : Outcome → State → Prop} {pc : Nat} {L : Array Slot} {S : List Value} (h : At T m c below) (hx : p.tables.exec = Jvm.exec) {i : Nat} {v : Value} (hd : decode c.code pc = .ok (.aload i, 2)) (hl : L[i]? = some (.val v)) (hv : v.isRef = true) (G : own_Go p e below T (mkF m (pc + 2) L (v :: S)) Φ) : own_Go p e below T (mkF m pc L S) Φ := own_by (fun t k => XS.aload h hx rfl hd hl hv k) G
theorem own_s_istoreN {p : Program} {e : Env} {below : List Frame} {T : State} {m : MethodId} {c : Code} {Φ : Outcome → State → Prop} {pc : Nat} {L : Array Slot} {S : List Value} (h : At T m c below) (hx : p.tables.exec = Jvm.exec) {i : Fin 4} {v : Int32} (L' : Array Slot) (hd : decode c.code pc = .ok (.istore_n i, 1)) (hl : storeLocals L i.val (.int v) = some L') (G : own_Go p e below T (mkF m (pc + 1) L' S) Φ) : own_Go p e below T (mkF m pc L (.int v :: S)) Φ := own_by (fun t k => XS.istoreN h hx rfl hd rfl hl k) G
theorem own_s_istore {p : Program} {e : Env} {below : List Frame} {T : State} {m : MethodId} {c : Code} {Φ : Outcome → State → Prop} {pc : Nat} {L : Array Slot} {S : List Value} (h : At T m c below) (hx : p.tables.exec = Jvm.exec) {i : Nat} {v : Int32} (L' : Array Slot) (hd : decode c.code pc = .ok (.istore i, 2)) (hl : storeLocals L i (.int v) = some L') (G : own_Go p e below T (mkF m (pc + 2) L' S) Φ) : own_Go p e below T (mkF m pc L (.int v :: S)) Φ := own_by (fun t k => XS.istore h hx rfl hd rfl hl k) G
theorem own_s_lstoreN {p : Program} {e : Env} {below : List Frame} {T : State} {m : MethodId} {c : Code} {Φ : Outcome → State → Prop} {pc : Nat} {L : Array Slot} {S : List Value} (h : At T m c below) (hx : p.tables.exec = Jvm.exec) {i : Fin 4} {v : Int64} (L' : Array Slot) (hd : decode c.code pc = .ok (.lstore_n i, 1)) (hl : storeLocals L i.val (.long v) = some L') (G : own_Go p e below T (mkF m (pc + 1) L' S) Φ) : own_Go p e below T (mkF m pc L (.long v :: S)) Φ := own_by (fun t k => XS.lstoreN h hx rfl hd rfl hl k) G
theorem own_s_lstore {p : Program} {e : Env} {below : List Frame} {T : State} {m : MethodId} {c : Code} {Φ : Outcome → State → Prop} {pc : Nat} {L : Array Slot} {S : List Value} (h : At T m c below) (hx : p.tables.exec = Jvm.exec) {i : Nat} {v : Int64} (L' : Array Slot) (hd : decode c.code pc = .ok (.lstore i, 2)) (hl : storeLocals L i (.long v) = some L') (G : own_Go p e below T (mkF m (pc + 2) L' S) Φ) : own_Go p e below T (mkF m pc L (.long v :: S)) Φ := own_by (fun t k => XS.lstore h hx rfl hd rfl hl k) G
theorem own_s_astoreN {p : Program} {e : Env} {below : List Frame} {T : State} {m : MethodId} {c : Code} {Φ : Outcome → State → Prop} {pc : Nat} {L : Array Slot} {S : List Value} (h : At T m c below) (hx : p.tables.exec = Jvm.exec) {i : Fin 4} {v : Value} (L' : Array Slot) (hd : decode c.code pc = .ok (.astore_n i, 1)) (hv : v.isRef = true) (hl : storeLocals L i.val v = some L') (G : own_Go p e below T (mkF m (pc + 1) L' S) Φ) : own_Go p e below T (mkF m pc L (v :: S)) Φ := own_by (fun t k => XS.astoreN h hx rfl hd rfl hv hl k) G
theorem own_s_astore {p : Program} {e : Env} {below : List Frame} {T : State} {m : MethodId} {c : Code} {Φ : Outcome → State → Prop} {pc : Nat} {L : Array Slot} {S : List Value} (h : At T m c below) (hx : p.tables.exec = Jvm.exec) {i : Nat} {v : Value} (L' : Array Slot) (hd : decode c.code pc = .ok (.astore i, 2)) (hv : v.isRef = true) (hl : storeLocals L i v = some L') (G : own_Go p e below T (mkF m (pc + 2) L' S) Φ) : own_Go p e below T (mkF m pc L (v :: S)) Φ := own_by (fun t k => XS.astore h hx rfl hd rfl hv hl k) G
theorem own_s_iconst {p : Program} {e : Env} {below : List Frame} {T : State} {m : MethodId} {c : Code} {Φ : Outcome → State → Prop} {pc : Nat} {L : Array Slot} {S : List Value} (h : At T m c below) (hx : p.tables.exec = Jvm.exec) {i : Int} (v : Int32) (hd : decode c.code pc = .ok (.iconst i, 1)) (hv : Int32.ofInt i = v) (G : own_Go p e below T (mkF m (pc + 1) L (.int v :: S)) Φ) : own_Go p e below T (mkF m pc L S) Φ := own_by (fun t k => XS.iconst h hx rfl hd (by rw [hv]; exact k)) G
theorem own_s_bipush {p : Program} {e : Env} {below : List Frame} {T : State} {m : MethodId} {c : Code} {Φ : Outcome → State → Prop} {pc : Nat} {L : Array Slot} {S : List Value} (h : At T m c below) (hx : p.tables.exec = Jvm.exec) {i : Int} (v : Int32) (hd : decode c.code pc = .ok (.bipush i, 2)) (hv : (Int8.ofInt i).toInt32 = v) (G : own_Go p e below T (mkF m (pc + 2) L (.int v :: S)) Φ) : own_Go p e below T (mkF m pc L S) Φ := own_by (fun t k => XS.bipush h hx rfl hd (by rw [hv]; exact k)) G
theorem own_s_sipush {p : Program} {e : Env} {below : List Frame} {T : State} {m : MethodId} {c : Code} {Φ : Outcome → State → Prop} {pc : Nat} {L : Array Slot} {S : List Value} (h : At T m c below) (hx : p.tables.exec = Jvm.exec) {i : Int} (v : Int32) (hd : decode c.code pc = .ok (.sipush i, 3)) (hv : (Int16.ofInt i).toInt32 = v) (G : own_Go p e below T (mkF m (pc + 3) L (.int v :: S)) Φ) : own_Go p e below T (mkF m pc L S) Φ := own_by (fun t k => XS.sipush h hx rfl hd (by rw [hv]; exact k)) G
theorem own_s_lconst {p : Program} {e : Env} {below : List Frame} {T : State} {m : MethodId} {c : Code} {Φ : Outcome → State → Prop} {pc : Nat} {L : Array Slot} {S : List Value} (h : At T m c below) (hx : p.tables.exec = Jvm.exec) {i : Fin 2} (v : Int64) (hd : decode c.code pc = .ok (.lconst i, 1)) (hv : Int64.ofNat i = v) (G : own_Go p e below T (mkF m (pc + 1) L (.long v :: S)) Φ) : own_Go p e below T (mkF m pc L S) Φ := own_by (fun t k => XS.lconst h hx rfl hd (by rw [hv]; exact k)) G
theorem own_s_goto {p : Program} {e : Env} {below : List Frame} {T : State} {m : MethodId} {c : Code} {Φ : Outcome → State → Prop} {pc : Nat} {L : Array Slot} {S : List Value} (h : At T m c below) (hx : p.tables.exec = Jvm.exec) {o : Int} (pc' : Nat) (hd : decode c.code pc = .ok (.goto o, 3)) (ho : 0 ≤ (pc : Int) + o) (hp : ((pc : Int) + o).toNat = pc') (G : own_Go p e below T (mkF m pc' L S) Φ) : own_Go p e below T (mkF m pc L S) Φ := own_by (fun t k => XS.goto h hx rfl rfl hd ho hp k) G
theorem own_s_ifYes {p : Program} {e : Env} {below : List Frame} {T : State} {m : MethodId} {c : Code} {Φ : Outcome → State → Prop} {pc : Nat} {L : Array Slot} {S : List Value} (h : At T m c below) (hx : p.tables.exec = Jvm.exec) {cd : ClassFile.Cond} {x : Int32} {o : Int} (pc' : Nat) (hd : decode c.code pc = .ok (.ifCond cd o, 3)) (hc : ifCond.holds cd x = true) (ho : 0 ≤ (pc : Int) + o) (hp : ((pc : Int) + o).toNat = pc') (G : own_Go p e below T (mkF m pc' L S) Φ) : own_Go p e below T (mkF m pc L (.int x :: S)) Φ := own_by (fun t k => XS.ifYes h hx rfl rfl hd rfl hc ho hp k) G
theorem own_s_ifNo {p : Program} {e : Env} {below : List Frame} {T : State} {m : MethodId} {c : Code} {Φ : Outcome → State → Prop} {pc : Nat} {L : Array Slot} {S : List Value} (h : At T m c below) (hx : p.tables.exec = Jvm.exec) {cd : ClassFile.Cond} {x : Int32} {o : Int} (hd : decode c.code pc = .ok (.ifCond cd o, 3)) (hc : ifCond.holds cd x = false) (G : own_Go p e below T (mkF m (pc + 3) L S) Φ) : own_Go p e below T (mkF m pc L (.int x :: S)) Φ := own_by (fun t k => XS.ifNo h hx rfl hd rfl hc k) G
theorem own_s_icmpYes {p : Program} {e : Env} {below : List Frame} {T : State} {m : MethodId} {c : Code} {Φ : Outcome → State → Prop} {pc : Nat} {L : Array Slot} {S : List Value} (h : At T m c below) (hx : p.tables.exec = Jvm.exec) {cd : ClassFile.Cond} {x y : Int32} {o : Int} (pc' : Nat) (hd : decode c.code pc = .ok (.if_icmp cd o, 3)) (hc : if_icmp.holds cd x y = true) (ho : 0 ≤ (pc : Int) + o) (hp : ((pc : Int) + o).toNat = pc') (G : own_Go p e below T (mkF m pc' L S) Φ) : own_Go p e below T (mkF m pc L (.int y :: .int x :: S)) Φ := own_by (fun t k => XS.icmpYes h hx rfl rfl hd rfl hc ho hp k) G
theorem own_s_icmpNo {p : Program} {e : Env} {below : List Frame} {T : State} {m : MethodId} {c : Code} {Φ : Outcome → State → Prop} {pc : Nat} {L : Array Slot} {S : List Value} (h : At T m c below) (hx : p.tables.exec = Jvm.exec) {cd : ClassFile.Cond} {x y : Int32} {o : Int} (hd : decode c.code pc = .ok (.if_icmp cd o, 3)) (hc : if_icmp.holds cd x y = false) (G : own_Go p e below T (mkF m (pc + 3) L S) Φ) : own_Go p e below T (mkF m pc L (.int y :: .int x :: S)) Φ := own_by (fun t k => XS.icmpNo h hx rfl hd rfl hc k) G
theorem own_s_lcmp {p : Program} {e : Env} {below : List Frame} {T : State} {m : MethodId} {c : Code} {Φ : Outcome → State → Prop} {pc : Nat} {L : Array Slot} {S : List Value} (h : At T m c below) (hx : p.tables.exec = Jvm.exec) {x y : Int64} (hd : decode c.code pc = .ok (.lcmp, 1)) (G : own_Go p e below T (mkF m (pc + 1) L (.int (Jvm.Free.XT.cmpL x y) :: S)) Φ) : own_Go p e below T (mkF m pc L (.long y :: .long x :: S)) Φ := own_by (fun t k => Jvm.Free.XT.lcmp h hx rfl hd rfl k) G
theorem own_s_dup {p : Program} {e : Env} {below : List Frame} {T : State} {m : MethodId} {c : Code} {Φ : Outcome → State → Prop} {pc : Nat} {L : Array Slot} {S : List Value} (h : At T m c below) (hx : p.tables.exec = Jvm.exec) {x : Value} (hd : decode c.code pc = .ok (.dup, 1)) (hc : x.category = 1) (G : own_Go p e below T (mkF m (pc + 1) L (x :: x :: S)) Φ) : own_Go p e below T (mkF m pc L (x :: S)) Φ := own_by (fun t k => XS.dup h hx rfl hd rfl hc k) G
theorem own_s_pop {p : Program} {e : Env} {below : List Frame} {T : State} {m : MethodId} {c : Code} {Φ : Outcome → State → Prop} {pc : Nat} {L : Array Slot} {S : List Value} (h : At T m c below) (hx : p.tables.exec = Jvm.exec) {x : Value} (hd : decode c.code pc = .ok (.pop, 1)) (hc : x.category = 1) (G : own_Go p e below T (mkF m (pc + 1) L S) Φ) : own_Go p e below T (mkF m pc L (x :: S)) Φ := own_by (fun t k => XS.pop h hx rfl hd rfl hc k) G

theorem own_d1_0 : decode prog_66_method_4_code 0 = .ok (.iload_n 0, 1) := by decide +kernel
theorem own_d1_1 : decode prog_66_method_4_code 1 = .ok (.ldc 9, 2) := by decide +kernel
theorem own_d1_3 : decode prog_66_method_4_code 3 = .ok (.isub, 1) := by decide +kernel
theorem own_d1_4 : decode prog_66_method_4_code 4 = .ok (.istore_n 1, 1) := by decide +kernel
theorem own_d1_5 : decode prog_66_method_4_code 5 = .ok (.sipush 4352, 3) := by decide +kernel
theorem own_d1_8 : decode prog_66_method_4_code 8 = .ok (.iload_n 1, 1) := by decide +kernel
theorem own_d1_9 : decode prog_66_method_4_code 9 = .ok (.sipush 588, 3) := by decide +kernel
theorem own_d1_12 : decode prog_66_method_4_code 12 = .ok (.idiv, 1) := by decide +kernel
theorem own_d1_13 : decode prog_66_method_4_code 13 = .ok (.iadd, 1) := by decide +kernel
theorem own_d1_14 : decode prog_66_method_4_code 14 = .ok (.istore_n 2, 1) := by decide +kernel
theorem own_d1_15 : decode prog_66_method_4_code 15 = .ok (.sipush 4449, 3) := by decide +kernel
theorem own_d1_18 : decode prog_66_method_4_code 18 = .ok (.iload_n 1, 1) := by decide +kernel
theorem own_d1_19 : decode prog_66_method_4_code 19 = .ok (.sipush 588, 3) := by decide +kernel
theorem own_d1_22 : decode prog_66_method_4_code 22 = .ok (.irem, 1) := by decide +kernel
theorem own_d1_23 : decode prog_66_method_4_code 23 = .ok (.bipush 28, 2) := by decide +kernel
theorem own_d1_25 : decode prog_66_method_4_code 25 = .ok (.idiv, 1) := by decide +kernel
theorem own_d1_26 : decode prog_66_method_4_code 26 = .ok (.iadd, 1) := by decide +kernel
theorem own_d1_27 : decode prog_66_method_4_code 27 = .ok (.istore_n 3, 1) := by decide +kernel
theorem own_d1_28 : decode prog_66_method_4_code 28 = .ok (.iload_n 1, 1) := by decide +kernel
theorem own_d1_29 : decode prog_66_method_4_code 29 = .ok (.bipush 28, 2) := by decide +kernel
theorem own_d1_31 : decode prog_66_method_4_code 31 = .ok (.irem, 1) := by decide +kernel
theorem own_d1_32 : decode prog_66_method_4_code 32 = .ok (.istore 4, 2) := by decide +kernel
theorem own_d1_34 : decode prog_66_method_4_code 34 = .ok (.iload 4, 2) := by decide +kernel
theorem own_d1_36 : decode prog_66_method_4_code 36 = .ok (.ifCond .ne 15, 3) := by decide +kernel
theorem own_d1_39 : decode prog_66_method_4_code 39 = .ok (.iconst 2, 1) := by decide +kernel
theorem own_d1_40 : decode prog_66_method_4_code 40 = .ok (.newarray .int, 2) := by decide +kernel
theorem own_d1_42 : decode prog_66_method_4_code 42 = .ok (.dup, 1) := by decide +kernel
theorem own_d1_43 : decode prog_66_method_4_code 43 = .ok (.iconst 0, 1) := by decide +kernel
theorem own_d1_44 : decode prog_66_method_4_code 44 = .ok (.iload_n 2, 1) := by decide +kernel
theorem own_d1_45 : decode prog_66_method_4_code 45 = .ok (.iastore, 1) := by decide +kernel
theorem own_d1_46 : decode prog_66_method_4_code 46 = .ok (.dup, 1) := by decide +kernel
theorem own_d1_47 : decode prog_66_method_4_code 47 = .ok (.iconst 1, 1) := by decide +kernel
theorem own_d1_48 : decode prog_66_method_4_code 48 = .ok (.iload_n 3, 1) := by decide +kernel
theorem own_d1_49 : decode prog_66_method_4_code 49 = .ok (.iastore, 1) := by decide +kernel
theorem own_d1_50 : decode prog_66_method_4_code 50 = .ok (.areturn, 1) := by decide +kernel
theorem own_d1_51 : decode prog_66_method_4_code 51 = .ok (.iconst 3, 1) := by decide +kernel
theorem own_d1_52 : decode prog_66_method_4_code 52 = .ok (.newarray .int, 2) := by decide +kernel
theorem own_d1_54 : decode prog_66_method_4_code 54 = .ok (.dup, 1) := by decide +kernel
theorem own_d1_55 : decode prog_66_method_4_code 55 = .ok (.iconst 0, 1) := by decide +kernel
theorem own_d1_56 : decode prog_66_method_4_code 56 = .ok (.iload_n 2, 1) := by decide +kernel
theorem own_d1_57 : decode prog_66_method_4_code 57 = .ok (.iastore, 1) := by decide +kernel
theorem own_d1_58 : decode prog_66_method_4_code 58 = .ok (.dup, 1) := by decide +kernel
theorem own_d1_59 : decode prog_66_method_4_code 59 = .ok (.iconst 1, 1) := by decide +kernel
theorem own_d1_60 : decode prog_66_method_4_code 60 = .ok (.iload_n 3, 1) := by decide +kernel
theorem own_d1_61 : decode prog_66_method_4_code 61 = .ok (.iastore, 1) := by decide +kernel
theorem own_d1_62 : decode prog_66_method_4_code 62 = .ok (.dup, 1) := by decide +kernel
theorem own_d1_63 : decode prog_66_method_4_code 63 = .ok (.iconst 2, 1) := by decide +kernel
theorem own_d1_64 : decode prog_66_method_4_code 64 = .ok (.sipush 4519, 3) := by decide +kernel
theorem own_d1_67 : decode prog_66_method_4_code 67 = .ok (.iload 4, 2) := by decide +kernel
theorem own_d1_69 : decode prog_66_method_4_code 69 = .ok (.iadd, 1) := by decide +kernel
theorem own_d1_70 : decode prog_66_method_4_code 70 = .ok (.iastore, 1) := by decide +kernel
theorem own_d1_71 : decode prog_66_method_4_code 71 = .ok (.areturn, 1) := by decide +kernel
theorem own_pn_Hangul : plainName "com/example/pvalid/pvalid/unicode/Hangul" = true := by first | (simp [plainName, overriddenIn]; done) | decide +kernel
theorem own_ef1 (m : MethodId) (u0 : Int32) : entryFrame m #[(.int u0)] 5 = mkF m 0 #[.val (.int u0), .unset, .unset, .unset, .unset] [] := by first | (simp [entryFrame, mkF, argsToLocals, Value.category]; done) | rfl
def own_q_own_r1a (Z : State) (u0 : Int32) (h0 : Heap) (n0 : Nat) (v : Option Value) (h : Heap) (L : List Loc) : Prop := ∃ b : Addr, v = some (.ref b) ∧ Fr n0 L ∧ n0 ≤ b ∧ Keep h0 h [] ∧ own_Av Z h b .int 2 (own_upd (own_upd (fun _ => (.int (0 : Int32))) 0 (.int ((4352 : Int32) + ((u0 - (44032 : Int32)) / (588 : Int32))))) 1 (.int ((4449 : Int32) + (((u0 - (44032 : Int32)) % (588 : Int32)) / (28 : Int32)))))
set_option maxRecDepth 65536 in
set_option maxHeartbeats 40000000 in
theorem own_r1a (l : Launch) (Z : State) (a0 : Array Value) (hw : ∀ d ∈ tables_1, d.before a0 Z = true) (ws : List Jvm.Cond) (u0 : Int32) (h0 : Heap) (n0 : Nat) (Z0 : n0 ≤ h0.size) (ht : ((u0 - (44032 : Int32)) % (28 : Int32)) = 0) :
    MetFree l (⟨"com/example/pvalid/pvalid/unicode/Hangul", "decompose", "(I)[I"⟩ : MethodName) (head1 (Jvm.Cond.code (⟨"com/example/pvalid/pvalid/unicode/Hangul", "decompose", "(I)[I"⟩ : MethodName) prog_66_method_4_code 5 (some (.array .int)) :: ws) ({ frames := 0, cells := 1, slots := 2, locals := 0 } : Room)) (fun a U => a = #[(.int u0)] ∧ Z.Warmed39 U.vm ∧ U.heap = h0) (fun _ _ _ _ _ => True) (fun _ U o U' => ∃ v L, o = .returned v ∧ own_q_own_r1a Z u0 h0 n0 v U'.heap L ∧ FrameEnd U o U' L ({ frames := 0, cells := 1, slots := 2, locals := 0 } : Room).cells ({ frames := 0, cells := 1, slots := 2, locals := 0 } : Room).slots) := by
  refine MetFree.of_bodySF (plainFor_of_name own_pn_Hangul) hisR ?_
  intro p e s m args below meth c T0 Bd hml0 hP hK
  obtain ⟨rfl, hZ, hh⟩ := hP
  have hx := Bd.exec
  have hby := Bd.bytes
  have hml : c.maxLocals = 5 := hml0
  have hown : s.vm.findClass "com/example/pvalid/pvalid/unicode/Hangul" = some m.cls := findClass_of_methodNamed Bd.named
  have hnm := (name_of_methodNamed Bd.named Bd.method).1
  have hret : meth.sig.returnType = (some (.array .int)) := Bd.returns
  have hlk : meth.locks = false := BodyLoose.notSynchronized Bd
  have X0 : Stand p l e ({ frames := 0, cells := 1, slots := 2, locals := 0 } : Room) s m #[(.int u0)] below meth c T0 [] 0 0 := Stand.of_body Bd
  have e0 : T0.heap = h0 := by rw [← hh, Bd.state]; rfl
  have N0 := Fr.nil n0
  refine own_start (own_ef1 m u0) (Q := fun (v : Option Value) (h : Heap) (L : List Loc) => ∃ b : Addr, v = some (.ref b) ∧ Fr n0 L ∧ n0 ≤ b ∧ Keep h0 h [] ∧ own_Av Z h b .int 2 (own_upd (own_upd (fun _ => (.int (0 : Int32))) 0 (.int ((4352 : Int32) + ((u0 - (44032 : Int32)) / (588 : Int32))))) 1 (.int ((4449 : Int32) + (((u0 - (44032 : Int32)) % (588 : Int32)) / (28 : Int32)))))) (k := 1) (j := 2) ?_
  show own_Go p e below T0 (mkF m 0 #[.val (.int u0), .unset, .unset, .unset, .unset] []) _
  have K0 := Keep.refl h0 []
  refine own_s_iloadN X0.here hx (hb hby own_d1_0) rfl ?_
  refine own_by (fun tq_ kq_ => X0.ldcInt hx hown (mvT hZ (hw _ (List.mem_of_getElem? (i := 6) rfl))) (g := (mkF m 1 #[.val (.int u0), .unset, .unset, .unset, .unset] [(.int u0)])) rfl (hb hby own_d1_1) tq_ kq_) ?_
  show own_Go p e below T0 (mkF m 3 #[.val (.int u0), .unset, .unset, .unset, .unset] [(.int (44032 : Int32)), (.int u0)]) _
  refine own_s_isub X0.here hx (hb hby own_d1_3) ?_
  refine own_s_istoreN X0.here hx #[.val (.int u0), .val (.int (u0 - (44032 : Int32))), .unset, .unset, .unset] (hb hby own_d1_4) rfl ?_
  refine own_s_sipush X0.here hx (4352 : Int32) (hb hby own_d1_5) rfl ?_
  refine own_s_iloadN X0.here hx (hb hby own_d1_8) rfl ?_
  refine own_s_sipush X0.here hx (588 : Int32) (hb hby own_d1_9) rfl ?_
  refine own_by (fun tq_ kq_ => XS.idiv X0.here hx rfl (hb hby own_d1_12) rfl (by decide) kq_) ?_
  show own_Go p e below T0 (mkF m 13 #[.val (.int u0), .val (.int (u0 - (44032 : Int32))), .unset, .unset, .unset] [(.int ((u0 - (44032 : Int32)) / (588 : Int32))), (.int (4352 : Int32))]) _
  refine own_s_iadd X0.here hx (hb hby own_d1_13) ?_
  refine own_s_istoreN X0.here hx #[.val (.int u0), .val (.int (u0 - (44032 : Int32))), .val (.int ((4352 : Int32) + ((u0 - (44032 : Int32)) / (588 : Int32)))), .unset, .unset] (hb hby own_d1_14) rfl ?_
  refine own_s_sipush X0.here hx (4449 : Int32) (hb hby own_d1_15) rfl ?_
  refine own_s_iloadN X0.here hx (hb hby own_d1_18) rfl ?_
  refine own_s_sipush X0.here hx (588 : Int32) (hb hby own_d1_19) rfl ?_
  refine own_by (fun tq_ kq_ => iremM X0 hx rfl (hb hby own_d1_22) rfl (by decide) kq_) ?_
  show own_Go p e below T0 (mkF m 23 #[.val (.int u0), .val (.int (u0 - (44032 : Int32))), .val (.int ((4352 : Int32) + ((u0 - (44032 : Int32)) / (588 : Int32)))), .unset, .unset] [(.int ((u0 - (44032 : Int32)) % (588 : Int32))), (.int (4449 : Int32))]) _
  refine own_s_bipush X0.here hx (28 : Int32) (hb hby own_d1_23) rfl ?_
  refine own_by (fun tq_ kq_ => XS.idiv X0.here hx rfl (hb hby own_d1_25) rfl (by decide) kq_) ?_
  show own_Go p e below T0 (mkF m 26 #[.val (.int u0), .val (.int (u0 - (44032 : Int32))), .val (.int ((4352 : Int32) + ((u0 - (44032 : Int32)) / (588 : Int32)))), .unset, .unset] [(.int (((u0 - (44032 : Int32)) % (588 : Int32)) / (28 : Int32))), (.int (4449 : Int32))]) _
  refine own_s_iadd X0.here hx (hb hby own_d1_26) ?_
  refine own_s_istoreN X0.here hx #[.val (.int u0), .val (.int (u0 - (44032 : Int32))), .val (.int ((4352 : Int32) + ((u0 - (44032 : Int32)) / (588 : Int32)))), .val (.int ((4449 : Int32) + (((u0 - (44032 : Int32)) % (588 : Int32)) / (28 : Int32)))), .unset] (hb hby own_d1_27) rfl ?_
  refine own_s_iloadN X0.here hx (hb hby own_d1_28) rfl ?_
  refine own_s_bipush X0.here hx (28 : Int32) (hb hby own_d1_29) rfl ?_
  refine own_by (fun tq_ kq_ => iremM X0 hx rfl (hb hby own_d1_31) rfl (by decide) kq_) ?_
  show own_Go p e below T0 (mkF m 32 #[.val (.int u0), .val (.int (u0 - (44032 : Int32))), .val (.int ((4352 : Int32) + ((u0 - (44032 : Int32)) / (588 : Int32)))), .val (.int ((4449 : Int32) + (((u0 - (44032 : Int32)) % (588 : Int32)) / (28 : Int32)))), .unset] [(.int ((u0 - (44032 : Int32)) % (28 : Int32)))]) _
  refine own_s_istore X0.here hx #[.val (.int u0), .val (.int (u0 - (44032 : Int32))), .val (.int ((4352 : Int32) + ((u0 - (44032 : Int32)) / (588 : Int32)))), .val (.int ((4449 : Int32) + (((u0 - (44032 : Int32)) % (588 : Int32)) / (28 : Int32)))), .val (.int ((u0 - (44032 : Int32)) % (28 : Int32)))] (hb hby own_d1_32) rfl ?_
  refine own_s_iload X0.here hx (hb hby own_d1_34) rfl ?_
  refine own_s_ifNo X0.here hx (hb hby own_d1_36) (Jvm.Free.XT.i0_ne_f ht) ?_
  refine own_s_iconst X0.here hx (2 : Int32) (hb hby own_d1_39) rfl ?_
  obtain ⟨T1, h1, k1, X1, e1, E1, A1, st1⟩ := newP X0 hx hZ (hw _ (List.mem_of_getElem? (i := 7) rfl)) e0 (g := (mkF m 40 #[.val (.int u0), .val (.int (u0 - (44032 : Int32))), .val (.int ((4352 : Int32) + ((u0 - (44032 : Int32)) / (588 : Int32)))), .val (.int ((4449 : Int32) + (((u0 - (44032 : Int32)) % (588 : Int32)) / (28 : Int32)))), .val (.int ((u0 - (44032 : Int32)) % (28 : Int32)))] [(.int (2 : Int32))])) rfl (hb hby own_d1_40) rfl (by decide) (cap := 2) (by decide) (by decide) (by decide) (by decide)
  obtain ⟨b1, g1⟩ : ∃ z, z = h0.size := ⟨_, rfl⟩
  rw [← g1] at A1 st1
  have ge_b1 : n0 ≤ b1 := Nat.le_trans Z0 (Nat.le_of_eq g1.symm)
  have sz_b1 : h0.size ≤ b1 := Nat.le_trans K0.1 (Nat.le_of_eq g1.symm)
  have SZ1 : n0 ≤ h1.size := Nat.le_trans Z0 E1.1
  have K1 := K0.ext E1
  have f2 : own_Av Z h1 b1 .int 2 (fun _ => (.int (0 : Int32))) := own_Av.ofnew A1 (by decide) rfl
  refine own_by st1 ?_
  show own_Go p e below T1 (mkF m 42 #[.val (.int u0), .val (.int (u0 - (44032 : Int32))), .val (.int ((4352 : Int32) + ((u0 - (44032 : Int32)) / (588 : Int32)))), .val (.int ((4449 : Int32) + (((u0 - (44032 : Int32)) % (588 : Int32)) / (28 : Int32)))), .val (.int ((u0 - (44032 : Int32)) % (28 : Int32)))] [(.ref b1)]) _
  refine own_s_dup X1.here hx (hb hby own_d1_42) rfl ?_
  refine own_s_iconst X1.here hx (0 : Int32) (hb hby own_d1_43) rfl ?_
  refine own_s_iloadN X1.here hx (hb hby own_d1_44) rfl ?_
  obtain ⟨T3, h3, X3, e3, W3, fa3, st3⟩ := own_stI X1 hx hZ e1 f2 (k := 0) (by decide) (by decide) (g := (mkF m 45 #[.val (.int u0), .val (.int (u0 - (44032 : Int32))), .val (.int ((4352 : Int32) + ((u0 - (44032 : Int32)) / (588 : Int32)))), .val (.int ((4449 : Int32) + (((u0 - (44032 : Int32)) % (588 : Int32)) / (28 : Int32)))), .val (.int ((u0 - (44032 : Int32)) % (28 : Int32)))] [(.int ((4352 : Int32) + ((u0 - (44032 : Int32)) / (588 : Int32)))), (.int (0 : Int32)), (.ref b1), (.ref b1)])) rfl rfl (hb hby own_d1_45)
  have N3 := Fr.snoc X3 N0 ge_b1
  have SZ3 : n0 ≤ h3.size := by rw [W3.size]; exact SZ1
  have K3 := K1.wr W3 (Or.inr sz_b1)
  refine own_by st3 ?_
  show own_Go p e below T3 (mkF m 46 #[.val (.int u0), .val (.int (u0 - (44032 : Int32))), .val (.int ((4352 : Int32) + ((u0 - (44032 : Int32)) / (588 : Int32)))), .val (.int ((4449 : Int32) + (((u0 - (44032 : Int32)) % (588 : Int32)) / (28 : Int32)))), .val (.int ((u0 - (44032 : Int32)) % (28 : Int32)))] [(.ref b1)]) _
  refine own_s_dup X3.here hx (hb hby own_d1_46) rfl ?_
  refine own_s_iconst X3.here hx (1 : Int32) (hb hby own_d1_47) rfl ?_
  refine own_s_iloadN X3.here hx (hb hby own_d1_48) rfl ?_
  obtain ⟨T4, h4, X4, e4, W4, fa4, st4⟩ := own_stI X3 hx hZ e3 fa3 (k := 1) (by decide) (by decide) (g := (mkF m 49 #[.val (.int u0), .val (.int (u0 - (44032 : Int32))), .val (.int ((4352 : Int32) + ((u0 - (44032 : Int32)) / (588 : Int32)))), .val (.int ((4449 : Int32) + (((u0 - (44032 : Int32)) % (588 : Int32)) / (28 : Int32)))), .val (.int ((u0 - (44032 : Int32)) % (28 : Int32)))] [(.int ((4449 : Int32) + (((u0 - (44032 : Int32)) % (588 : Int32)) / (28 : Int32)))), (.int (1 : Int32)), (.ref b1), (.ref b1)])) rfl rfl (hb hby own_d1_49)
  have N4 := Fr.snoc X4 N3 ge_b1
  have SZ4 : n0 ≤ h4.size := by rw [W4.size]; exact SZ3
  have K4 := K3.wr W4 (Or.inr sz_b1)
  refine own_by st4 ?_
  show own_Go p e below T4 (mkF m 50 #[.val (.int u0), .val (.int (u0 - (44032 : Int32))), .val (.int ((4352 : Int32) + ((u0 - (44032 : Int32)) / (588 : Int32)))), .val (.int ((4449 : Int32) + (((u0 - (44032 : Int32)) % (588 : Int32)) / (28 : Int32)))), .val (.int ((u0 - (44032 : Int32)) % (28 : Int32)))] [(.ref b1)]) _
  refine own_retA X4 hx hret hlk (hb hby own_d1_50) rfl rfl rfl (by decide) (by decide) ?_
  rw [e4]
  exact ⟨b1, rfl, N4, ge_b1, K4, fa4⟩
def own_q_own_r1b (Z : State) (u0 : Int32) (h0 : Heap) (n0 : Nat) (v : Option Value) (h : Heap) (L : List Loc) : Prop := ∃ b : Addr, v = some (.ref b) ∧ Fr n0 L ∧ n0 ≤ b ∧ Keep h0 h [] ∧ own_Av Z h b .int 3 (own_upd (own_upd (own_upd (fun _ => (.int (0 : Int32))) 0 (.int ((4352 : Int32) + ((u0 - (44032 : Int32)) / (588 : Int32))))) 1 (.int ((4449 : Int32) + (((u0 - (44032 : Int32)) % (588 : Int32)) / (28 : Int32))))) 2 (.int ((4519 : Int32) + ((u0 - (44032 : Int32)) % (28 : Int32)))))
set_option maxRecDepth 65536 in
set_option maxHeartbeats 40000000 in
theorem own_r1b (l : Launch) (Z : State) (a0 : Array Value) (hw : ∀ d ∈ tables_1, d.before a0 Z = true) (ws : List Jvm.Cond) (u0 : Int32) (h0 : Heap) (n0 : Nat) (Z0 : n0 ≤ h0.size) (ht : ¬ ((u0 - (44032 : Int32)) % (28 : Int32)) = 0) :
    MetFree l (⟨"com/example/pvalid/pvalid/unicode/Hangul", "decompose", "(I)[I"⟩ : MethodName) (head1 (Jvm.Cond.code (⟨"com/example/pvalid/pvalid/unicode/Hangul", "decompose", "(I)[I"⟩ : MethodName) prog_66_method_4_code 5 (some (.array .int)) :: ws) ({ frames := 0, cells := 1, slots := 3, locals := 0 } : Room)) (fun a U => a = #[(.int u0)] ∧ Z.Warmed39 U.vm ∧ U.heap = h0) (fun _ _ _ _ _ => True) (fun _ U o U' => ∃ v L, o = .returned v ∧ own_q_own_r1b Z u0 h0 n0 v U'.heap L ∧ FrameEnd U o U' L ({ frames := 0, cells := 1, slots := 3, locals := 0 } : Room).cells ({ frames := 0, cells := 1, slots := 3, locals := 0 } : Room).slots) := by
  refine MetFree.of_bodySF (plainFor_of_name own_pn_Hangul) hisR ?_
  intro p e s m args below meth c T0 Bd hml0 hP hK
  obtain ⟨rfl, hZ, hh⟩ := hP
  have hx := Bd.exec
  have hby := Bd.bytes
  have hml : c.maxLocals = 5 := hml0
  have hown : s.vm.findClass "com/example/pvalid/pvalid/unicode/Hangul" = some m.cls := findClass_of_methodNamed Bd.named
  have hnm := (name_of_methodNamed Bd.named Bd.method).1
  have hret : meth.sig.returnType = (some (.array .int)) := Bd.returns
  have hlk : meth.locks = false := BodyLoose.notSynchronized Bd
  have X0 : Stand p l e ({ frames := 0, cells := 1, slots := 3, locals := 0 } : Room) s m #[(.int u0)] below meth c T0 [] 0 0 := Stand.of_body Bd
  have e0 : T0.heap = h0 := by rw [← hh, Bd.state]; rfl
  have N0 := Fr.nil n0
  refine own_start (own_ef1 m u0) (Q := fun (v : Option Value) (h : Heap) (L : List Loc) => ∃ b : Addr, v = some (.ref b) ∧ Fr n0 L ∧ n0 ≤ b ∧ Keep h0 h [] ∧ own_Av Z h b .int 3 (own_upd (own_upd (own_upd (fun _ => (.int (0 : Int32))) 0 (.int ((4352 : Int32) + ((u0 - (44032 : Int32)) / (588 : Int32))))) 1 (.int ((4449 : Int32) + (((u0 - (44032 : Int32)) % (588 : Int32)) / (28 : Int32))))) 2 (.int ((4519 : Int32) + ((u0 - (44032 : Int32)) % (28 : Int32)))))) (k := 1) (j := 3) ?_
  show own_Go p e below T0 (mkF m 0 #[.val (.int u0), .unset, .unset, .unset, .unset] []) _
  have K0 := Keep.refl h0 []
  refine own_s_iloadN X0.here hx (hb hby own_d1_0) rfl ?_
  refine own_by (fun tq_ kq_ => X0.ldcInt hx hown (mvT hZ (hw _ (List.mem_of_getElem? (i := 6) rfl))) (g := (mkF m 1 #[.val (.int u0), .unset, .unset, .unset, .unset] [(.int u0)])) rfl (hb hby own_d1_1) tq_ kq_) ?_
  show own_Go p e below T0 (mkF m 3 #[.val (.int u0), .unset, .unset, .unset, .unset] [(.int (44032 : Int32)), (.int u0)]) _
  refine own_s_isub X0.here hx (hb hby own_d1_3) ?_
  refine own_s_istoreN X0.here hx #[.val (.int u0), .val (.int (u0 - (44032 : Int32))), .unset, .unset, .unset] (hb hby own_d1_4) rfl ?_
  refine own_s_sipush X0.here hx (4352 : Int32) (hb hby own_d1_5) rfl ?_
  refine own_s_iloadN X0.here hx (hb hby own_d1_8) rfl ?_
  refine own_s_sipush X0.here hx (588 : Int32) (hb hby own_d1_9) rfl ?_
  refine own_by (fun tq_ kq_ => XS.idiv X0.here hx rfl (hb hby own_d1_12) rfl (by decide) kq_) ?_
  show own_Go p e below T0 (mkF m 13 #[.val (.int u0), .val (.int (u0 - (44032 : Int32))), .unset, .unset, .unset] [(.int ((u0 - (44032 : Int32)) / (588 : Int32))), (.int (4352 : Int32))]) _
  refine own_s_iadd X0.here hx (hb hby own_d1_13) ?_
  refine own_s_istoreN X0.here hx #[.val (.int u0), .val (.int (u0 - (44032 : Int32))), .val (.int ((4352 : Int32) + ((u0 - (44032 : Int32)) / (588 : Int32)))), .unset, .unset] (hb hby own_d1_14) rfl ?_
  refine own_s_sipush X0.here hx (4449 : Int32) (hb hby own_d1_15) rfl ?_
  refine own_s_iloadN X0.here hx (hb hby own_d1_18) rfl ?_
  refine own_s_sipush X0.here hx (588 : Int32) (hb hby own_d1_19) rfl ?_
  refine own_by (fun tq_ kq_ => iremM X0 hx rfl (hb hby own_d1_22) rfl (by decide) kq_) ?_
  show own_Go p e below T0 (mkF m 23 #[.val (.int u0), .val (.int (u0 - (44032 : Int32))), .val (.int ((4352 : Int32) + ((u0 - (44032 : Int32)) / (588 : Int32)))), .unset, .unset] [(.int ((u0 - (44032 : Int32)) % (588 : Int32))), (.int (4449 : Int32))]) _
  refine own_s_bipush X0.here hx (28 : Int32) (hb hby own_d1_23) rfl ?_
  refine own_by (fun tq_ kq_ => XS.idiv X0.here hx rfl (hb hby own_d1_25) rfl (by decide) kq_) ?_
  show own_Go p e below T0 (mkF m 26 #[.val (.int u0), .val (.int (u0 - (44032 : Int32))), .val (.int ((4352 : Int32) + ((u0 - (44032 : Int32)) / (588 : Int32)))), .unset, .unset] [(.int (((u0 - (44032 : Int32)) % (588 : Int32)) / (28 : Int32))), (.int (4449 : Int32))]) _
  refine own_s_iadd X0.here hx (hb hby own_d1_26) ?_
  refine own_s_istoreN X0.here hx #[.val (.int u0), .val (.int (u0 - (44032 : Int32))), .val (.int ((4352 : Int32) + ((u0 - (44032 : Int32)) / (588 : Int32)))), .val (.int ((4449 : Int32) + (((u0 - (44032 : Int32)) % (588 : Int32)) / (28 : Int32)))), .unset] (hb hby own_d1_27) rfl ?_
  refine own_s_iloadN X0.here hx (hb hby own_d1_28) rfl ?_
  refine own_s_bipush X0.here hx (28 : Int32) (hb hby own_d1_29) rfl ?_
  refine own_by (fun tq_ kq_ => iremM X0 hx rfl (hb hby own_d1_31) rfl (by decide) kq_) ?_
  show own_Go p e below T0 (mkF m 32 #[.val (.int u0), .val (.int (u0 - (44032 : Int32))), .val (.int ((4352 : Int32) + ((u0 - (44032 : Int32)) / (588 : Int32)))), .val (.int ((4449 : Int32) + (((u0 - (44032 : Int32)) % (588 : Int32)) / (28 : Int32)))), .unset] [(.int ((u0 - (44032 : Int32)) % (28 : Int32)))]) _
  refine own_s_istore X0.here hx #[.val (.int u0), .val (.int (u0 - (44032 : Int32))), .val (.int ((4352 : Int32) + ((u0 - (44032 : Int32)) / (588 : Int32)))), .val (.int ((4449 : Int32) + (((u0 - (44032 : Int32)) % (588 : Int32)) / (28 : Int32)))), .val (.int ((u0 - (44032 : Int32)) % (28 : Int32)))] (hb hby own_d1_32) rfl ?_
  refine own_s_iload X0.here hx (hb hby own_d1_34) rfl ?_
  show own_Go p e below T0 (mkF m 36 #[.val (.int u0), .val (.int (u0 - (44032 : Int32))), .val (.int ((4352 : Int32) + ((u0 - (44032 : Int32)) / (588 : Int32)))), .val (.int ((4449 : Int32) + (((u0 - (44032 : Int32)) % (588 : Int32)) / (28 : Int32)))), .val (.int ((u0 - (44032 : Int32)) % (28 : Int32)))] [(.int ((u0 - (44032 : Int32)) % (28 : Int32)))]) _
  refine own_s_ifYes X0.here hx 51 (hb hby own_d1_36) (Jvm.Free.XT.i0_ne_t ht) (by decide) (by decide) ?_
  refine own_s_iconst X0.here hx (3 : Int32) (hb hby own_d1_51) rfl ?_
  obtain ⟨T5, h5, k5, X5, e5, E5, A5, st5⟩ := newP X0 hx hZ (hw _ (List.mem_of_getElem? (i := 7) rfl)) e0 (g := (mkF m 52 #[.val (.int u0), .val (.int (u0 - (44032 : Int32))), .val (.int ((4352 : Int32) + ((u0 - (44032 : Int32)) / (588 : Int32)))), .val (.int ((4449 : Int32) + (((u0 - (44032 : Int32)) % (588 : Int32)) / (28 : Int32)))), .val (.int ((u0 - (44032 : Int32)) % (28 : Int32)))] [(.int (3 : Int32))])) rfl (hb hby own_d1_52) rfl (by decide) (cap := 3) (by decide) (by decide) (by decide) (by decide)
  obtain ⟨b5, g5⟩ : ∃ z, z = h0.size := ⟨_, rfl⟩
  rw [← g5] at A5 st5
  have ge_b5 : n0 ≤ b5 := Nat.le_trans Z0 (Nat.le_of_eq g5.symm)
  have sz_b5 : h0.size ≤ b5 := Nat.le_trans K0.1 (Nat.le_of_eq g5.symm)
  have SZ5 : n0 ≤ h5.size := Nat.le_trans Z0 E5.1
  have K5 := K0.ext E5
  have f6 : own_Av Z h5 b5 .int 3 (fun _ => (.int (0 : Int32))) := own_Av.ofnew A5 (by decide) rfl
  refine own_by st5 ?_
  show own_Go p e below T5 (mkF m 54 #[.val (.int u0), .val (.int (u0 - (44032 : Int32))), .val (.int ((4352 : Int32) + ((u0 - (44032 : Int32)) / (588 : Int32)))), .val (.int ((4449 : Int32) + (((u0 - (44032 : Int32)) % (588 : Int32)) / (28 : Int32)))), .val (.int ((u0 - (44032 : Int32)) % (28 : Int32)))] [(.ref b5)]) _
  refine own_s_dup X5.here hx (hb hby own_d1_54) rfl ?_
  refine own_s_iconst X5.here hx (0 : Int32) (hb hby own_d1_55) rfl ?_
  refine own_s_iloadN X5.here hx (hb hby own_d1_56) rfl ?_
  obtain ⟨T7, h7, X7, e7, W7, fa7, st7⟩ := own_stI X5 hx hZ e5 f6 (k := 0) (by decide) (by decide) (g := (mkF m 57 #[.val (.int u0), .val (.int (u0 - (44032 : Int32))), .val (.int ((4352 : Int32) + ((u0 - (44032 : Int32)) / (588 : Int32)))), .val (.int ((4449 : Int32) + (((u0 - (44032 : Int32)) % (588 : Int32)) / (28 : Int32)))), .val (.int ((u0 - (44032 : Int32)) % (28 : Int32)))] [(.int ((4352 : Int32) + ((u0 - (44032 : Int32)) / (588 : Int32)))), (.int (0 : Int32)), (.ref b5), (.ref b5)])) rfl rfl (hb hby own_d1_57)
  have N7 := Fr.snoc X7 N0 ge_b5
  have SZ7 : n0 ≤ h7.size := by rw [W7.size]; exact SZ5
  have K7 := K5.wr W7 (Or.inr sz_b5)
  refine own_by st7 ?_
  show own_Go p e below T7 (mkF m 58 #[.val (.int u0), .val (.int (u0 - (44032 : Int32))), .val (.int ((4352 : Int32) + ((u0 - (44032 : Int32)) / (588 : Int32)))), .val (.int ((4449 : Int32) + (((u0 - (44032 : Int32)) % (588 : Int32)) / (28 : Int32)))), .val (.int ((u0 - (44032 : Int32)) % (28 : Int32)))] [(.ref b5)]) _
  refine own_s_dup X7.here hx (hb hby own_d1_58) rfl ?_
  refine own_s_iconst X7.here hx (1 : Int32) (hb hby own_d1_59) rfl ?_
  refine own_s_iloadN X7.here hx (hb hby own_d1_60) rfl ?_
  obtain ⟨T8, h8, X8, e8, W8, fa8, st8⟩ := own_stI X7 hx hZ e7 fa7 (k := 1) (by decide) (by decide) (g := (mkF m 61 #[.val (.int u0), .val (.int (u0 - (44032 : Int32))), .val (.int ((4352 : Int32) + ((u0 - (44032 : Int32)) / (588 : Int32)))), .val (.int ((4449 : Int32) + (((u0 - (44032 : Int32)) % (588 : Int32)) / (28 : Int32)))), .val (.int ((u0 - (44032 : Int32)) % (28 : Int32)))] [(.int ((4449 : Int32) + (((u0 - (44032 : Int32)) % (588 : Int32)) / (28 : Int32)))), (.int (1 : Int32)), (.ref b5), (.ref b5)])) rfl rfl (hb hby own_d1_61)
  have N8 := Fr.snoc X8 N7 ge_b5
  have SZ8 : n0 ≤ h8.size := by rw [W8.size]; exact SZ7
  have K8 := K7.wr W8 (Or.inr sz_b5)
  refine own_by st8 ?_
  show own_Go p e below T8 (mkF m 62 #[.val (.int u0), .val (.int (u0 - (44032 : Int32))), .val (.int ((4352 : Int32) + ((u0 - (44032 : Int32)) / (588 : Int32)))), .val (.int ((4449 : Int32) + (((u0 - (44032 : Int32)) % (588 : Int32)) / (28 : Int32)))), .val (.int ((u0 - (44032 : Int32)) % (28 : Int32)))] [(.ref b5)]) _
  refine own_s_dup X8.here hx (hb hby own_d1_62) rfl ?_
  refine own_s_iconst X8.here hx (2 : Int32) (hb hby own_d1_63) rfl ?_
  refine own_s_sipush X8.here hx (4519 : Int32) (hb hby own_d1_64) rfl ?_
  refine own_s_iload X8.here hx (hb hby own_d1_67) rfl ?_
  refine own_s_iadd X8.here hx (hb hby own_d1_69) ?_
  obtain ⟨T9, h9, X9, e9, W9, fa9, st9⟩ := own_stI X8 hx hZ e8 fa8 (k := 2) (by decide) (by decide) (g := (mkF m 70 #[.val (.int u0), .val (.int (u0 - (44032 : Int32))), .val (.int ((4352 : Int32) + ((u0 - (44032 : Int32)) / (588 : Int32)))), .val (.int ((4449 : Int32) + (((u0 - (44032 : Int32)) % (588 : Int32)) / (28 : Int32)))), .val (.int ((u0 - (44032 : Int32)) % (28 : Int32)))] [(.int ((4519 : Int32) + ((u0 - (44032 : Int32)) % (28 : Int32)))), (.int (2 : Int32)), (.ref b5), (.ref b5)])) rfl rfl (hb hby own_d1_70)
  have N9 := Fr.snoc X9 N8 ge_b5
  have SZ9 : n0 ≤ h9.size := by rw [W9.size]; exact SZ8
  have K9 := K8.wr W9 (Or.inr sz_b5)
  refine own_by st9 ?_
  show own_Go p e below T9 (mkF m 71 #[.val (.int u0), .val (.int (u0 - (44032 : Int32))), .val (.int ((4352 : Int32) + ((u0 - (44032 : Int32)) / (588 : Int32)))), .val (.int ((4449 : Int32) + (((u0 - (44032 : Int32)) % (588 : Int32)) / (28 : Int32)))), .val (.int ((u0 - (44032 : Int32)) % (28 : Int32)))] [(.ref b5)]) _
  refine own_retA X9 hx hret hlk (hb hby own_d1_71) rfl rfl rfl (by decide) (by decide) ?_
  rw [e9]
  exact ⟨b5, rfl, N9, ge_b5, K9, fa9⟩
theorem own_b (x : Int32) (k : Int32) (n : Int) (hk : k.toInt = n) (hn : 0 < n) : 0 ≤ ((x &&& (2147483647 : Int32)) % k).toInt ∧ ((x &&& (2147483647 : Int32)) % k).toInt < n := by
  have e1 : (x &&& (2147483647 : Int32)).toInt = x.toInt % 2 ^ 31 := Jvm.Kit.i32_mask x _ (k := 31) (by decide) (by decide)
  rw [Jvm.Kit.i32_rem_nonneg (by omega), hk]
  exact ⟨Int.emod_nonneg _ (by omega), Int.emod_lt_of_pos _ hn⟩
theorem own_sy (l v t : Int32) (hl : 0 ≤ l.toInt ∧ l.toInt < 19) (hv : 0 ≤ v.toInt ∧ v.toInt < 21) (ht : 0 ≤ t.toInt ∧ t.toInt < 28) : ((((44032 : Int32) + (((l * (21 : Int32)) + v) * (28 : Int32))) + t) - (44032 : Int32)).toInt = (l.toInt * 21 + v.toInt) * 28 + t.toInt := by
  have c1 : (21 : Int32).toInt = 21 := by decide
  have c2 : (28 : Int32).toInt = 28 := by decide
  have c3 : (44032 : Int32).toInt = 44032 := by decide
  have e1 : (l * (21 : Int32)).toInt = l.toInt * 21 := by rw [Jvm.Kit.i32_mul (by rw [c1]; omega) (by rw [c1]; omega), c1]
  have e2 : (l * (21 : Int32) + v).toInt = l.toInt * 21 + v.toInt := by rw [Jvm.Kit.i32_add (by rw [e1]; omega) (by rw [e1]; omega), e1]
  have e3 : ((l * (21 : Int32) + v) * (28 : Int32)).toInt = (l.toInt * 21 + v.toInt) * 28 := by rw [Jvm.Kit.i32_mul (by rw [e2, c2]; omega) (by rw [e2, c2]; omega), e2, c2]
  have e4 : ((44032 : Int32) + ((l * (21 : Int32) + v) * (28 : Int32))).toInt = 44032 + (l.toInt * 21 + v.toInt) * 28 := by rw [Jvm.Kit.i32_add (by rw [e3, c3]; omega) (by rw [e3, c3]; omega), e3, c3]
  have e5 : (((44032 : Int32) + ((l * (21 : Int32) + v) * (28 : Int32))) + t).toInt = 44032 + (l.toInt * 21 + v.toInt) * 28 + t.toInt := by rw [Jvm.Kit.i32_add (by rw [e4]; omega) (by rw [e4]; omega), e4]
  rw [Jvm.Kit.i32_sub (by rw [e5, c3]; omega) (by rw [e5, c3]; omega), e5, c3]
  omega
theorem own_parts (d l v t : Int32) (hl : 0 ≤ l.toInt ∧ l.toInt < 19) (hv : 0 ≤ v.toInt ∧ v.toInt < 21) (ht : 0 ≤ t.toInt ∧ t.toInt < 28) (hd : d.toInt = (l.toInt * 21 + v.toInt) * 28 + t.toInt) :
    d / (588 : Int32) = l ∧ (d % (588 : Int32)) / (28 : Int32) = v ∧ d % (28 : Int32) = t := by
  have c1 : (588 : Int32).toInt = 588 := by decide
  have c2 : (28 : Int32).toInt = 28 := by decide
  have e1 : (d % (588 : Int32)).toInt = d.toInt % 588 := by rw [Jvm.Kit.i32_rem_nonneg (by omega), c1]
  refine ⟨Int32.toInt_inj.mp ?_, Int32.toInt_inj.mp ?_, Int32.toInt_inj.mp ?_⟩
  · rw [Jvm.Kit.i32_div (by rw [c1]; omega), c1, Int.tdiv_eq_ediv_of_nonneg (by omega)]; omega
  · rw [Jvm.Kit.i32_div (by rw [c2]; omega), c2, e1, Int.tdiv_eq_ediv_of_nonneg (by omega)]; omega
  · rw [Jvm.Kit.i32_rem_nonneg (by omega), c2]; omega
theorem own_pn_HangulDecomposePinLaw : plainName "com/example/pvalid/pvalid/unicode/HangulDecomposePinLaw" = true := by first | (simp [plainName, overriddenIn]; done) | decide +kernel
theorem own_ml : maxLocals = 8 := rfl
theorem own_ef0 (m : MethodId) (x0 : Int32) (y0 : Int32) (z0 : Int32) : entryFrame m #[(.int x0), (.int y0), (.int z0)] maxLocals = mkF m 0 #[.val (.int x0), .val (.int y0), .val (.int z0), .unset, .unset, .unset, .unset, .unset] [] := by first | (simp [entryFrame, mkF, argsToLocals, Value.category, maxLocals]; done) | rfl
theorem own_pd_0 : parseMethodDescriptor "(I)[I" = some ⟨[.int], some (.array .int)⟩ := by decide +kernel
def own_q_own_r0 (Z : State) (x0 : Int32) (y0 : Int32) (z0 : Int32) (h0 : Heap) (n0 : Nat) (v : Option Value) (h : Heap) (L : List Loc) : Prop := v = some (.int 1) ∧ Fr n0 L
set_option maxRecDepth 65536 in
set_option maxHeartbeats 40000000 in
theorem own_r0 (l : Launch) (Z : State) (a0 : Array Value) (hw : ∀ d ∈ tables_1, d.before a0 Z = true) (ws : List Jvm.Cond) (x0 : Int32) (y0 : Int32) (z0 : Int32) (h0 : Heap) (n0 : Nat) (Z0 : n0 ≤ h0.size) :
    MetFree l x (head1 (Jvm.Cond.code x code maxLocals ret :: ws) room_1) (fun a U => a = #[(.int x0), (.int y0), (.int z0)] ∧ Z.Warmed39 U.vm ∧ U.heap = h0) (fun _ _ _ _ _ => True) (fun _ U o U' => ∃ v L, o = .returned v ∧ own_q_own_r0 Z x0 y0 z0 h0 n0 v U'.heap L ∧ FrameEnd U o U' L 16 128) := by
  refine MetFree.of_bodySF (plainFor_of_name own_pn_HangulDecomposePinLaw) hisR ?_
  intro p e s m args below meth c T0 Bd hml0 hP hK
  obtain ⟨rfl, hZ, hh⟩ := hP
  have hx := Bd.exec
  have hby := Bd.bytes
  have hml : c.maxLocals = 8 := hml0
  have hown : s.vm.findClass "com/example/pvalid/pvalid/unicode/HangulDecomposePinLaw" = some m.cls := findClass_of_methodNamed Bd.named
  have hnm := (name_of_methodNamed Bd.named Bd.method).1
  have hret : meth.sig.returnType = (some .boolean) := Bd.returns
  have hlk : meth.locks = false := BodyLoose.notSynchronized Bd
  have X0 : Stand p l e room_1 s m #[(.int x0), (.int y0), (.int z0)] below meth c T0 [] 0 0 := Stand.of_body Bd
  have e0 : T0.heap = h0 := by rw [← hh, Bd.state]; rfl
  have N0 := Fr.nil n0
  refine own_start (own_ef0 m x0 y0 z0) (Q := fun (v : Option Value) (h : Heap) (L : List Loc) => v = some (.int 1) ∧ Fr n0 L) (k := 16) (j := 128) ?_
  show own_Go p e below T0 (mkF m 0 #[.val (.int x0), .val (.int y0), .val (.int z0), .unset, .unset, .unset, .unset, .unset] []) _
  refine own_s_iloadN X0.here hx (hb hby at_0) rfl ?_
  refine own_by (fun tq_ kq_ => X0.ldcInt hx hown (mvT hZ (hw _ (List.mem_of_getElem? (i := 0) rfl))) (g := (mkF m 1 #[.val (.int x0), .val (.int y0), .val (.int z0), .unset, .unset, .unset, .unset, .unset] [(.int x0)])) rfl (hb hby at_1) tq_ kq_) ?_
  show own_Go p e below T0 (mkF m 3 #[.val (.int x0), .val (.int y0), .val (.int z0), .unset, .unset, .unset, .unset, .unset] [(.int (2147483647 : Int32)), (.int x0)]) _
  refine own_s_iand X0.here hx (hb hby at_3) ?_
  refine own_s_bipush X0.here hx (19 : Int32) (hb hby at_4) rfl ?_
  refine own_by (fun tq_ kq_ => iremM X0 hx rfl (hb hby at_6) rfl (by decide) kq_) ?_
  show own_Go p e below T0 (mkF m 7 #[.val (.int x0), .val (.int y0), .val (.int z0), .unset, .unset, .unset, .unset, .unset] [(.int ((x0 &&& (2147483647 : Int32)) % (19 : Int32)))]) _
  refine own_s_istoreN X0.here hx #[.val (.int x0), .val (.int y0), .val (.int z0), .val (.int ((x0 &&& (2147483647 : Int32)) % (19 : Int32))), .unset, .unset, .unset, .unset] (hb hby at_7) rfl ?_
  refine own_s_iloadN X0.here hx (hb hby at_8) rfl ?_
  refine own_by (fun tq_ kq_ => X0.ldcInt hx hown (mvT hZ (hw _ (List.mem_of_getElem? (i := 0) rfl))) (g := (mkF m 9 #[.val (.int x0), .val (.int y0), .val (.int z0), .val (.int ((x0 &&& (2147483647 : Int32)) % (19 : Int32))), .unset, .unset, .unset, .unset] [(.int y0)])) rfl (hb hby at_9) tq_ kq_) ?_
  show own_Go p e below T0 (mkF m 11 #[.val (.int x0), .val (.int y0), .val (.int z0), .val (.int ((x0 &&& (2147483647 : Int32)) % (19 : Int32))), .unset, .unset, .unset, .unset] [(.int (2147483647 : Int32)), (.int y0)]) _
  refine own_s_iand X0.here hx (hb hby at_11) ?_
  refine own_s_bipush X0.here hx (21 : Int32) (hb hby at_12) rfl ?_
  refine own_by (fun tq_ kq_ => iremM X0 hx rfl (hb hby at_14) rfl (by decide) kq_) ?_
  show own_Go p e below T0 (mkF m 15 #[.val (.int x0), .val (.int y0), .val (.int z0), .val (.int ((x0 &&& (2147483647 : Int32)) % (19 : Int32))), .unset, .unset, .unset, .unset] [(.int ((y0 &&& (2147483647 : Int32)) % (21 : Int32)))]) _
  refine own_s_istore X0.here hx #[.val (.int x0), .val (.int y0), .val (.int z0), .val (.int ((x0 &&& (2147483647 : Int32)) % (19 : Int32))), .val (.int ((y0 &&& (2147483647 : Int32)) % (21 : Int32))), .unset, .unset, .unset] (hb hby at_15) rfl ?_
  refine own_s_iloadN X0.here hx (hb hby at_17) rfl ?_
  refine own_by (fun tq_ kq_ => X0.ldcInt hx hown (mvT hZ (hw _ (List.mem_of_getElem? (i := 0) rfl))) (g := (mkF m 18 #[.val (.int x0), .val (.int y0), .val (.int z0), .val (.int ((x0 &&& (2147483647 : Int32)) % (19 : Int32))), .val (.int ((y0 &&& (2147483647 : Int32)) % (21 : Int32))), .unset, .unset, .unset] [(.int z0)])) rfl (hb hby at_18) tq_ kq_) ?_
  show own_Go p e below T0 (mkF m 20 #[.val (.int x0), .val (.int y0), .val (.int z0), .val (.int ((x0 &&& (2147483647 : Int32)) % (19 : Int32))), .val (.int ((y0 &&& (2147483647 : Int32)) % (21 : Int32))), .unset, .unset, .unset] [(.int (2147483647 : Int32)), (.int z0)]) _
  refine own_s_iand X0.here hx (hb hby at_20) ?_
  refine own_s_bipush X0.here hx (28 : Int32) (hb hby at_21) rfl ?_
  refine own_by (fun tq_ kq_ => iremM X0 hx rfl (hb hby at_23) rfl (by decide) kq_) ?_
  show own_Go p e below T0 (mkF m 24 #[.val (.int x0), .val (.int y0), .val (.int z0), .val (.int ((x0 &&& (2147483647 : Int32)) % (19 : Int32))), .val (.int ((y0 &&& (2147483647 : Int32)) % (21 : Int32))), .unset, .unset, .unset] [(.int ((z0 &&& (2147483647 : Int32)) % (28 : Int32)))]) _
  refine own_s_istore X0.here hx #[.val (.int x0), .val (.int y0), .val (.int z0), .val (.int ((x0 &&& (2147483647 : Int32)) % (19 : Int32))), .val (.int ((y0 &&& (2147483647 : Int32)) % (21 : Int32))), .val (.int ((z0 &&& (2147483647 : Int32)) % (28 : Int32))), .unset, .unset] (hb hby at_24) rfl ?_
  generalize hlq : ((x0 &&& (2147483647 : Int32)) % (19 : Int32)) = lq
  show own_Go p e below T0 (mkF m 26 #[.val (.int x0), .val (.int y0), .val (.int z0), .val (.int lq), .val (.int ((y0 &&& (2147483647 : Int32)) % (21 : Int32))), .val (.int ((z0 &&& (2147483647 : Int32)) % (28 : Int32))), .unset, .unset] []) _
  have blq := own_b x0 (19 : Int32) 19 (by decide) (by decide)
  rw [hlq] at blq
  generalize hvq : ((y0 &&& (2147483647 : Int32)) % (21 : Int32)) = vq
  show own_Go p e below T0 (mkF m 26 #[.val (.int x0), .val (.int y0), .val (.int z0), .val (.int lq), .val (.int vq), .val (.int ((z0 &&& (2147483647 : Int32)) % (28 : Int32))), .unset, .unset] []) _
  have bvq := own_b y0 (21 : Int32) 21 (by decide) (by decide)
  rw [hvq] at bvq
  generalize htq : ((z0 &&& (2147483647 : Int32)) % (28 : Int32)) = tq
  show own_Go p e below T0 (mkF m 26 #[.val (.int x0), .val (.int y0), .val (.int z0), .val (.int lq), .val (.int vq), .val (.int tq), .unset, .unset] []) _
  have btq := own_b z0 (28 : Int32) 28 (by decide) (by decide)
  rw [htq] at btq
  refine own_by (fun tq_ kq_ => X0.ldcInt hx hown (mvT hZ (hw _ (List.mem_of_getElem? (i := 1) rfl))) (g := (mkF m 26 #[.val (.int x0), .val (.int y0), .val (.int z0), .val (.int lq), .val (.int vq), .val (.int tq), .unset, .unset] [])) rfl (hb hby at_26) tq_ kq_) ?_
  show own_Go p e below T0 (mkF m 28 #[.val (.int x0), .val (.int y0), .val (.int z0), .val (.int lq), .val (.int vq), .val (.int tq), .unset, .unset] [(.int (44032 : Int32))]) _
  refine own_s_iloadN X0.here hx (hb hby at_28) rfl ?_
  refine own_s_bipush X0.here hx (21 : Int32) (hb hby at_29) rfl ?_
  refine own_s_imul X0.here hx (hb hby at_31) ?_
  refine own_s_iload X0.here hx (hb hby at_32) rfl ?_
  refine own_s_iadd X0.here hx (hb hby at_34) ?_
  refine own_s_bipush X0.here hx (28 : Int32) (hb hby at_35) rfl ?_
  refine own_s_imul X0.here hx (hb hby at_37) ?_
  refine own_s_iadd X0.here hx (hb hby at_38) ?_
  refine own_s_iload X0.here hx (hb hby at_39) rfl ?_
  refine own_s_iadd X0.here hx (hb hby at_41) ?_
  refine own_s_istore X0.here hx #[.val (.int x0), .val (.int y0), .val (.int z0), .val (.int lq), .val (.int vq), .val (.int tq), .val (.int (((44032 : Int32) + (((lq * (21 : Int32)) + vq) * (28 : Int32))) + tq)), .unset] (hb hby at_42) rfl ?_
  refine own_s_iload X0.here hx (hb hby at_44) rfl ?_
  show own_Go p e below T0 (mkF m 46 #[.val (.int x0), .val (.int y0), .val (.int z0), .val (.int lq), .val (.int vq), .val (.int tq), .val (.int (((44032 : Int32) + (((lq * (21 : Int32)) + vq) * (28 : Int32))) + tq)), .unset] [(.int (((44032 : Int32) + (((lq * (21 : Int32)) + vq) * (28 : Int32))) + tq))]) _
  have hd0 := own_sy lq vq tq blq bvq btq
  generalize hsy : (((44032 : Int32) + (((lq * (21 : Int32)) + vq) * (28 : Int32))) + tq) = sy at hd0
  try rw [hsy]
  show own_Go p e below T0 (mkF m 46 #[.val (.int x0), .val (.int y0), .val (.int z0), .val (.int lq), .val (.int vq), .val (.int tq), .val (.int sy), .unset] [(.int sy)]) _
  obtain ⟨hp1, hp2, hp3⟩ := own_parts _ lq vq tq blq bvq btq hd0
  by_cases ht0 : tq = 0
  ·
    obtain ⟨_, _, ⟨T10, L10, k10, n10⟩, -, X10, ⟨Lc10, hQ10, l10, y10, z10⟩, st10⟩ := Jvm.LawKit.callS X0 hx (y := (⟨"com/example/pvalid/pvalid/unicode/Hangul", "decompose", "(I)[I"⟩ : MethodName)) hown (mvT hZ (hw _ (List.mem_of_getElem? (i := 2) rfl))) (mvT hZ (hw _ (List.mem_of_getElem? (i := 3) rfl))) (mvT hZ (hw _ (List.mem_of_getElem? (i := 4) rfl))) (mvT hZ (hw _ (List.mem_of_getElem? (i := 5) rfl))) (by decide) (backOf (W := 0) (own_r1a l Z a0 hw [] sy  h0 n0 Z0 (hp3.trans ht0)) hZ (hw _ (List.mem_of_getElem? (i := 5) rfl)) (hw _ (List.mem_of_getElem? (i := 4) rfl)) (by decide) (by decide)) (g := (mkF m 46 #[.val (.int x0), .val (.int y0), .val (.int z0), .val (.int lq), .val (.int vq), .val (.int tq), .val (.int sy), .unset] [(.int sy)])) rfl (by rw [hml]; rfl) (argsL := [(.int sy)]) (rest := []) (lenOf own_pd_0 rfl) rfl (by show 2 * 0 + _ ≤ _; exact Nat.le_of_eq rfl) (hb hby at_46) (fun _ _ => ⟨rfl, e0, (by decide : 0 + 1 ≤ _), (by decide : 0 + 2 ≤ _)⟩)
    dsimp only [Pt.U, Pt.locs, Pt.cells, Pt.slots] at X10 l10 y10 z10 st10 hQ10
    subst l10 y10 z10
    obtain ⟨bb10, rfl, N10q, gb10, K10, fa10⟩ := hQ10
    have N10 := Fr.app N0 N10q
    have SZ10 : n0 ≤ T10.heap.size := Nat.le_trans Z0 K10.1
    refine own_by st10 ?_
    show own_Go p e below T10 (mkF m 49 #[.val (.int x0), .val (.int y0), .val (.int z0), .val (.int lq), .val (.int vq), .val (.int tq), .val (.int sy), .unset] [(.ref bb10)]) _
    refine own_s_astore X10.here hx #[.val (.int x0), .val (.int y0), .val (.int z0), .val (.int lq), .val (.int vq), .val (.int tq), .val (.int sy), .val (.ref bb10)] (hb hby at_49) rfl rfl ?_
    refine own_s_aload X10.here hx (hb hby at_51) rfl rfl ?_
    refine own_by (fun tq_ kq_ => XS.ifnonnullYes X10.here hx rfl (pc0 := 53) (pc' := 58) rfl (hb hby at_53) rfl (by decide) (by decide) kq_) ?_
    show own_Go p e below T10 (mkF m 58 #[.val (.int x0), .val (.int y0), .val (.int z0), .val (.int lq), .val (.int vq), .val (.int tq), .val (.int sy), .val (.ref bb10)] []) _
    refine own_s_iload X10.here hx (hb hby at_58) rfl ?_
    refine own_s_ifNo X10.here hx (hb hby at_60) (Jvm.Free.XT.i0_ne_f ht0) ?_
    refine own_s_aload X10.here hx (hb hby at_63) rfl rfl ?_
    refine own_by (fun tq_ kq_ => own_len X10 hx hZ rfl fa10 (z := (2 : Int32)) rfl (g := (mkF m 65 #[.val (.int x0), .val (.int y0), .val (.int z0), .val (.int lq), .val (.int vq), .val (.int tq), .val (.int sy), .val (.ref bb10)] [(.ref bb10)])) rfl rfl (hb hby at_65) tq_ kq_) ?_
    show own_Go p e below T10 (mkF m 66 #[.val (.int x0), .val (.int y0), .val (.int z0), .val (.int lq), .val (.int vq), .val (.int tq), .val (.int sy), .val (.ref bb10)] [(.int (2 : Int32))]) _
    refine own_s_iconst X10.here hx (2 : Int32) (hb hby at_66) rfl ?_
    refine own_s_icmpNo X10.here hx (hb hby at_67) (Jvm.Free.XT.ii_ne_f ((by decide))) ?_
    refine own_s_aload X10.here hx (hb hby at_70) rfl rfl ?_
    refine own_s_iconst X10.here hx (0 : Int32) (hb hby at_72) rfl ?_
    refine own_by (fun tq_ kq_ => own_ldI X10 hx hZ rfl fa10 (k := 0) (v := (.int ((4352 : Int32) + ((sy - (44032 : Int32)) / (588 : Int32))))) (by decide) (by decide) rfl (g := (mkF m 73 #[.val (.int x0), .val (.int y0), .val (.int z0), .val (.int lq), .val (.int vq), .val (.int tq), .val (.int sy), .val (.ref bb10)] [(.int (0 : Int32)), (.ref bb10)])) rfl rfl (hb hby at_73) tq_ kq_) ?_
    show own_Go p e below T10 (mkF m 74 #[.val (.int x0), .val (.int y0), .val (.int z0), .val (.int lq), .val (.int vq), .val (.int tq), .val (.int sy), .val (.ref bb10)] [(.int ((4352 : Int32) + ((sy - (44032 : Int32)) / (588 : Int32))))]) _
    refine own_s_sipush X10.here hx (4352 : Int32) (hb hby at_74) rfl ?_
    refine own_s_iloadN X10.here hx (hb hby at_77) rfl ?_
    refine own_s_iadd X10.here hx (hb hby at_78) ?_
    refine own_s_icmpNo X10.here hx (hb hby at_79) (Jvm.Free.XT.ii_ne_f ((by rw [hp1]))) ?_
    refine own_s_aload X10.here hx (hb hby at_82) rfl rfl ?_
    refine own_s_iconst X10.here hx (1 : Int32) (hb hby at_84) rfl ?_
    refine own_by (fun tq_ kq_ => own_ldI X10 hx hZ rfl fa10 (k := 1) (v := (.int ((4449 : Int32) + (((sy - (44032 : Int32)) % (588 : Int32)) / (28 : Int32))))) (by decide) (by decide) rfl (g := (mkF m 85 #[.val (.int x0), .val (.int y0), .val (.int z0), .val (.int lq), .val (.int vq), .val (.int tq), .val (.int sy), .val (.ref bb10)] [(.int (1 : Int32)), (.ref bb10)])) rfl rfl (hb hby at_85) tq_ kq_) ?_
    show own_Go p e below T10 (mkF m 86 #[.val (.int x0), .val (.int y0), .val (.int z0), .val (.int lq), .val (.int vq), .val (.int tq), .val (.int sy), .val (.ref bb10)] [(.int ((4449 : Int32) + (((sy - (44032 : Int32)) % (588 : Int32)) / (28 : Int32))))]) _
    refine own_s_sipush X10.here hx (4449 : Int32) (hb hby at_86) rfl ?_
    refine own_s_iload X10.here hx (hb hby at_89) rfl ?_
    refine own_s_iadd X10.here hx (hb hby at_91) ?_
    refine own_s_icmpNo X10.here hx (hb hby at_92) (Jvm.Free.XT.ii_ne_f ((by rw [hp2]))) ?_
    refine own_s_iconst X10.here hx (1 : Int32) (hb hby at_95) rfl ?_
    show own_Go p e below T10 (mkF m 96 #[.val (.int x0), .val (.int y0), .val (.int z0), .val (.int lq), .val (.int vq), .val (.int tq), .val (.int sy), .val (.ref bb10)] [(.int (1 : Int32))]) _
    refine own_s_goto X10.here hx 100 (hb hby at_96) (by decide) (by decide) ?_
    refine own_retZ X10 hx hret hlk (hb hby at_100) rfl (by decide) (by decide) ?_
    exact ⟨rfl, N10⟩
  ·
    obtain ⟨_, _, ⟨T11, L11, k11, n11⟩, -, X11, ⟨Lc11, hQ11, l11, y11, z11⟩, st11⟩ := Jvm.LawKit.callS X0 hx (y := (⟨"com/example/pvalid/pvalid/unicode/Hangul", "decompose", "(I)[I"⟩ : MethodName)) hown (mvT hZ (hw _ (List.mem_of_getElem? (i := 2) rfl))) (mvT hZ (hw _ (List.mem_of_getElem? (i := 3) rfl))) (mvT hZ (hw _ (List.mem_of_getElem? (i := 4) rfl))) (mvT hZ (hw _ (List.mem_of_getElem? (i := 5) rfl))) (by decide) (backOf (W := 0) (own_r1b l Z a0 hw [] sy  h0 n0 Z0 (fun q => ht0 (hp3.symm.trans q))) hZ (hw _ (List.mem_of_getElem? (i := 5) rfl)) (hw _ (List.mem_of_getElem? (i := 4) rfl)) (by decide) (by decide)) (g := (mkF m 46 #[.val (.int x0), .val (.int y0), .val (.int z0), .val (.int lq), .val (.int vq), .val (.int tq), .val (.int sy), .unset] [(.int sy)])) rfl (by rw [hml]; rfl) (argsL := [(.int sy)]) (rest := []) (lenOf own_pd_0 rfl) rfl (by show 2 * 0 + _ ≤ _; exact Nat.le_of_eq rfl) (hb hby at_46) (fun _ _ => ⟨rfl, e0, (by decide : 0 + 1 ≤ _), (by decide : 0 + 3 ≤ _)⟩)
    dsimp only [Pt.U, Pt.locs, Pt.cells, Pt.slots] at X11 l11 y11 z11 st11 hQ11
    subst l11 y11 z11
    obtain ⟨bb11, rfl, N11q, gb11, K11, fa11⟩ := hQ11
    have N11 := Fr.app N0 N11q
    have SZ11 : n0 ≤ T11.heap.size := Nat.le_trans Z0 K11.1
    refine own_by st11 ?_
    show own_Go p e below T11 (mkF m 49 #[.val (.int x0), .val (.int y0), .val (.int z0), .val (.int lq), .val (.int vq), .val (.int tq), .val (.int sy), .unset] [(.ref bb11)]) _
    refine own_s_astore X11.here hx #[.val (.int x0), .val (.int y0), .val (.int z0), .val (.int lq), .val (.int vq), .val (.int tq), .val (.int sy), .val (.ref bb11)] (hb hby at_49) rfl rfl ?_
    refine own_s_aload X11.here hx (hb hby at_51) rfl rfl ?_
    refine own_by (fun tq_ kq_ => XS.ifnonnullYes X11.here hx rfl (pc0 := 53) (pc' := 58) rfl (hb hby at_53) rfl (by decide) (by decide) kq_) ?_
    show own_Go p e below T11 (mkF m 58 #[.val (.int x0), .val (.int y0), .val (.int z0), .val (.int lq), .val (.int vq), .val (.int tq), .val (.int sy), .val (.ref bb11)] []) _
    refine own_s_iload X11.here hx (hb hby at_58) rfl ?_
    show own_Go p e below T11 (mkF m 60 #[.val (.int x0), .val (.int y0), .val (.int z0), .val (.int lq), .val (.int vq), .val (.int tq), .val (.int sy), .val (.ref bb11)] [(.int tq)]) _
    refine own_s_ifYes X11.here hx 101 (hb hby at_60) (Jvm.Free.XT.i0_ne_t ht0) (by decide) (by decide) ?_
    refine own_s_aload X11.here hx (hb hby at_101) rfl rfl ?_
    refine own_by (fun tq_ kq_ => own_len X11 hx hZ rfl fa11 (z := (3 : Int32)) rfl (g := (mkF m 103 #[.val (.int x0), .val (.int y0), .val (.int z0), .val (.int lq), .val (.int vq), .val (.int tq), .val (.int sy), .val (.ref bb11)] [(.ref bb11)])) rfl rfl (hb hby at_103) tq_ kq_) ?_
    show own_Go p e below T11 (mkF m 104 #[.val (.int x0), .val (.int y0), .val (.int z0), .val (.int lq), .val (.int vq), .val (.int tq), .val (.int sy), .val (.ref bb11)] [(.int (3 : Int32))]) _
    refine own_s_iconst X11.here hx (3 : Int32) (hb hby at_104) rfl ?_
    refine own_s_icmpNo X11.here hx (hb hby at_105) (Jvm.Free.XT.ii_ne_f ((by decide))) ?_
    refine own_s_aload X11.here hx (hb hby at_108) rfl rfl ?_
    refine own_s_iconst X11.here hx (0 : Int32) (hb hby at_110) rfl ?_
    refine own_by (fun tq_ kq_ => own_ldI X11 hx hZ rfl fa11 (k := 0) (v := (.int ((4352 : Int32) + ((sy - (44032 : Int32)) / (588 : Int32))))) (by decide) (by decide) rfl (g := (mkF m 111 #[.val (.int x0), .val (.int y0), .val (.int z0), .val (.int lq), .val (.int vq), .val (.int tq), .val (.int sy), .val (.ref bb11)] [(.int (0 : Int32)), (.ref bb11)])) rfl rfl (hb hby at_111) tq_ kq_) ?_
    show own_Go p e below T11 (mkF m 112 #[.val (.int x0), .val (.int y0), .val (.int z0), .val (.int lq), .val (.int vq), .val (.int tq), .val (.int sy), .val (.ref bb11)] [(.int ((4352 : Int32) + ((sy - (44032 : Int32)) / (588 : Int32))))]) _
    refine own_s_sipush X11.here hx (4352 : Int32) (hb hby at_112) rfl ?_
    refine own_s_iloadN X11.here hx (hb hby at_115) rfl ?_
    refine own_s_iadd X11.here hx (hb hby at_116) ?_
    refine own_s_icmpNo X11.here hx (hb hby at_117) (Jvm.Free.XT.ii_ne_f ((by rw [hp1]))) ?_
    refine own_s_aload X11.here hx (hb hby at_120) rfl rfl ?_
    refine own_s_iconst X11.here hx (1 : Int32) (hb hby at_122) rfl ?_
    refine own_by (fun tq_ kq_ => own_ldI X11 hx hZ rfl fa11 (k := 1) (v := (.int ((4449 : Int32) + (((sy - (44032 : Int32)) % (588 : Int32)) / (28 : Int32))))) (by decide) (by decide) rfl (g := (mkF m 123 #[.val (.int x0), .val (.int y0), .val (.int z0), .val (.int lq), .val (.int vq), .val (.int tq), .val (.int sy), .val (.ref bb11)] [(.int (1 : Int32)), (.ref bb11)])) rfl rfl (hb hby at_123) tq_ kq_) ?_
    show own_Go p e below T11 (mkF m 124 #[.val (.int x0), .val (.int y0), .val (.int z0), .val (.int lq), .val (.int vq), .val (.int tq), .val (.int sy), .val (.ref bb11)] [(.int ((4449 : Int32) + (((sy - (44032 : Int32)) % (588 : Int32)) / (28 : Int32))))]) _
    refine own_s_sipush X11.here hx (4449 : Int32) (hb hby at_124) rfl ?_
    refine own_s_iload X11.here hx (hb hby at_127) rfl ?_
    refine own_s_iadd X11.here hx (hb hby at_129) ?_
    refine own_s_icmpNo X11.here hx (hb hby at_130) (Jvm.Free.XT.ii_ne_f ((by rw [hp2]))) ?_
    refine own_s_aload X11.here hx (hb hby at_133) rfl rfl ?_
    refine own_s_iconst X11.here hx (2 : Int32) (hb hby at_135) rfl ?_
    refine own_by (fun tq_ kq_ => own_ldI X11 hx hZ rfl fa11 (k := 2) (v := (.int ((4519 : Int32) + ((sy - (44032 : Int32)) % (28 : Int32))))) (by decide) (by decide) rfl (g := (mkF m 136 #[.val (.int x0), .val (.int y0), .val (.int z0), .val (.int lq), .val (.int vq), .val (.int tq), .val (.int sy), .val (.ref bb11)] [(.int (2 : Int32)), (.ref bb11)])) rfl rfl (hb hby at_136) tq_ kq_) ?_
    show own_Go p e below T11 (mkF m 137 #[.val (.int x0), .val (.int y0), .val (.int z0), .val (.int lq), .val (.int vq), .val (.int tq), .val (.int sy), .val (.ref bb11)] [(.int ((4519 : Int32) + ((sy - (44032 : Int32)) % (28 : Int32))))]) _
    refine own_s_sipush X11.here hx (4519 : Int32) (hb hby at_137) rfl ?_
    refine own_s_iload X11.here hx (hb hby at_140) rfl ?_
    refine own_s_iadd X11.here hx (hb hby at_142) ?_
    refine own_s_icmpNo X11.here hx (hb hby at_143) (Jvm.Free.XT.ii_ne_f ((by rw [hp3]))) ?_
    refine own_s_iconst X11.here hx (1 : Int32) (hb hby at_146) rfl ?_
    show own_Go p e below T11 (mkF m 147 #[.val (.int x0), .val (.int y0), .val (.int z0), .val (.int lq), .val (.int vq), .val (.int tq), .val (.int sy), .val (.ref bb11)] [(.int (1 : Int32))]) _
    refine own_s_goto X11.here hx 151 (hb hby at_147) (by decide) (by decide) ?_
    refine own_retZ X11 hx hret hlk (hb hby at_151) rfl (by decide) (by decide) ?_
    exact ⟨rfl, N11⟩
set_option maxRecDepth 65536 in
set_option maxHeartbeats 40000000 in
theorem own_comes {Post : Tables → Env → Array Value → State → Outcome → State → Prop} (hpost : ∀ tb e args s v u, (limb_1_1.after args s (.returned v) u = true ∧ limb_1_2.after args s (.returned v) u = true ∧ True) → FrameEnd s (.returned v) u (Jvm.fieldLocs frame_1_writes args s ++ Jvm.arrayLocs frame_1_arrays args s ++ Jvm.staticLocs frame_1_statics s) 16 128 → Post tb e args s (.returned v) u) :
    ArmFor flags0 classFile x code maxLocals ret World_1 tables_1 room_1 Calls_1 rest_1 Pre_1 Post := by
  intro l hfl _ _ p e ha hc hk s m args below hf hA hF happ hP
  obtain ⟨hcalls, hrest, hpre⟩ := hP
  obtain ⟨-, -, -, hnamed, -, -, -, hat⟩ := (Spec.applies_iff hf).mp happ
  obtain ⟨hg, hn⟩ := and_e (Cond.before_iff.mp (show (Jvm.Cond.and given_1 narrow_1).before args s = true from hpre))
  obtain ⟨g1, g2⟩ := and_e hg
  obtain ⟨g3, g4⟩ := and_e g2
  obtain ⟨g5, g6⟩ := and_e g4
  obtain ⟨w0, w1, w2, rfl⟩ : ∃ w0 w1 w2 : Value, args = #[w0, w1, w2] := by
    have hs : args.size = 3 := by simpa [Cond.value, given_1] using g1
    obtain ⟨L⟩ := args
    match L, hs with
    | [w0, w1, w2], _ => exact ⟨w0, w1, w2, rfl⟩
  have hw := fun d (hd : d ∈ tables_1) => atoms_spec (ws := Jvm.Cond.code x code maxLocals ret :: tables_1) hat d (List.mem_cons_of_mem _ hd)
  obtain ⟨i0, ei0⟩ := is_v g3
  obtain rfl : w0 = (.int i0) := Option.some.inj ei0
  obtain ⟨i1, ei1⟩ := is_v g5
  obtain rfl : w1 = (.int i1) := Option.some.inj ei1
  obtain ⟨i2, ei2⟩ := is_v g6
  obtain rfl : w2 = (.int i2) := Option.some.inj ei2
  obtain ⟨n, o, h1, h2, h3, _, L, rfl, ⟨rfl, N⟩, hq⟩ := own_r0 l s _ hw tables_1 i0 i1 i2 s.heap s.heap.size (Nat.le_refl _) p e ha hc hk s m _ below hf ((Spec.applies_iff_loose hf).mp happ).1 ⟨rfl, State.Warmed39.refl s, rfl⟩ trivial
  refine ⟨n, _, h1, h2, h3, hpost _ _ _ _ _ _ ⟨Cond.after_iff.mpr rfl, Cond.after_iff.mpr (eq_i res_at (Term.int_eval (1)) rfl), trivial⟩ ⟨hq.1, hq.2.1, (hq.2.2.sift fun y hy => Or.inr (N y hy)).mono (by decide) (by decide)⟩⟩
theorem main_1_1 : Claimed_1_1 := own_comes fun _ _ _ _ _ _ h hF => ⟨h.1, hF⟩
theorem main_1_2 : Claimed_1_2 := own_comes fun _ _ _ _ _ _ h hF => ⟨h.2.1, hF⟩
end Jvm.Pilot.@@N@@
namespace Jvm.Pilot.@@N@@
open Jvm Jvm.ClassFile Sem Op Lib Jvm.Free Jvm.Stand Jvm.Pilot.@@N@@.Jvm.D
/-! MADE BY PROGRAM (witnessworld.py) out of the Statement's table words and the real class files: 9 classes; the members and pool entries that the words name. The judged class is class 1, her method 1. -/
namespace start1
open Jvm.ClassFile
def u (s : String) : CpInfo := .utf8 (stringToUtf16 s)
/-- a pool by its gaps: so many unusable entries, then the entry; so many at the end -/
def gap : Nat → List CpInfo → List CpInfo
  | 0, r => r
  | n + 1, r => .unusable :: gap n r
def poolList (es : List (Nat × CpInfo)) (last : Nat) : List CpInfo := es.foldr (fun e r => gap e.1 (e.2 :: r)) (gap last [])
def pool (es : List (Nat × CpInfo)) (last : Nat) : Array CpInfo := ⟨poolList es last⟩
def fileOf (pool : Array CpInfo) (this : Nat) (attrs : Array Attribute := #[]) (ms : Array MethodInfo := #[]) (fl : Nat := 33) (sup : Nat := 0) (ifs : Array Nat := #[]) (fds : Array FieldInfo := #[]) : ClassFile where
  minorVersion := 0
  majorVersion := 65
  constantPool := pool
  accessFlags := fl
  thisClass := this
  superClass := sup
  interfaces := ifs
  fields := fds
  methods := ms
  attributes := attrs
def plain (name : String) (sup : Option ClassId) : Class where
  name := name
  kind := .ordinary
  loader := none
  accessFlags := 33
  super := sup
  interfaces := #[]
  cf := none
  fields := #[]
  methods := #[]
  instanceTypes := #[]
  staticTypes := #[]
  resolved := #[]
  callSites := []
  init := .initialized
  statics := none
  mirror := none

def pool0 : Array CpInfo := pool [(5, u "<init>"), (0, u "()V"), (1, .class_ 10), (1, u "java/lang/Object")] 113

def k0m0 : Method := { name := "<init>", desc := "()V", sig := { parameters := [], returnType := none }, accessFlags := 1, code := none }
/-- java/lang/Object -/
def k0 : Class := { plain "java/lang/Object" none with
  accessFlags := 33
  interfaces := #[]
  cf := some (fileOf pool0 8 #[] #[{ accessFlags := 1, nameIndex := 5, descriptorIndex := 6, attributes := #[] }] 33 0 #[] #[])
  fields := #[]
  methods := #[k0m0]
  instanceTypes := #[]
  staticTypes := #[]
  resolved := Array.replicate 124 none
  statics := none }

def pool1 : Array CpInfo := pool [(2, .class_ 4), (1, u "java/lang/Object"), (0, u "<init>"), (0, u "()V"), (0, .integer 2147483647), (0, .integer 44032), (0, .methodref 10 11), (0, .class_ 12), (0, .nameAndType 13 14), (0, u "com/example/pvalid/pvalid/unicode/Hangul"), (0, u "decompose"), (0, u "(I)[I"), (0, .class_ 16), (0, u "com/example/pvalid/pvalid/unicode/HangulDecomposePinLaw"), (2, u "law"), (0, u "(III)Z")] 5

def k1m0 : Method := { name := "<init>", desc := "()V", sig := { parameters := [], returnType := none }, accessFlags := 2, code := none }
def k1c1 : Code := { maxStack := 3, maxLocals := 8, code := code, exceptionTable := #[], attributes := #[] }
def k1m1 : Method := { name := "law", desc := "(III)Z", sig := { parameters := [.int, .int, .int], returnType := some .boolean }, accessFlags := 9, code := some k1c1 }
/-- com/example/pvalid/pvalid/unicode/HangulDecomposePinLaw -/
def k1 : Class := { plain "com/example/pvalid/pvalid/unicode/HangulDecomposePinLaw" (some 0) with
  accessFlags := 49
  interfaces := #[]
  cf := some (fileOf pool1 15 #[] #[{ accessFlags := 2, nameIndex := 5, descriptorIndex := 6, attributes := #[] }, { accessFlags := 9, nameIndex := 19, descriptorIndex := 20, attributes := #[] }] 49 2 #[] #[])
  fields := #[]
  methods := #[k1m0, k1m1]
  instanceTypes := #[]
  staticTypes := #[]
  resolved := Array.replicate 26 none
  statics := none }

def pool2 : Array CpInfo := pool [(1, .class_ 2), (0, u "com/example/pvalid/pvalid/unicode/Hangul"), (1, .class_ 6), (1, u "java/lang/Object"), (0, u "<init>"), (0, u "()V"), (0, .integer 44032), (11, u "S_BASE"), (0, u "I"), (1, u "L_BASE"), (1, u "V_BASE"), (1, u "T_BASE"), (1, u "L_COUNT"), (1, u "V_COUNT"), (1, u "T_COUNT"), (1, u "N_COUNT"), (1, u "S_COUNT"), (8, u "decompose"), (0, u "(I)[I")] 5

def k2m0 : Method := { name := "<init>", desc := "()V", sig := { parameters := [], returnType := none }, accessFlags := 2, code := none }
def k2c1 : Code := { maxStack := 5, maxLocals := 5, code := prog_66_method_4_code, exceptionTable := #[], attributes := #[] }
def k2m1 : Method := { name := "decompose", desc := "(I)[I", sig := { parameters := [.int], returnType := some (.array .int) }, accessFlags := 8, code := some k2c1 }
/-- com/example/pvalid/pvalid/unicode/Hangul -/
def k2 : Class := { plain "com/example/pvalid/pvalid/unicode/Hangul" (some 0) with
  accessFlags := 32
  interfaces := #[]
  cf := some (fileOf pool2 1 #[] #[{ accessFlags := 2, nameIndex := 7, descriptorIndex := 8, attributes := #[] }, { accessFlags := 8, nameIndex := 47, descriptorIndex := 48, attributes := #[] }] 32 4 #[] #[{ accessFlags := 26, nameIndex := 21, descriptorIndex := 22, attributes := #[] }, { accessFlags := 26, nameIndex := 24, descriptorIndex := 22, attributes := #[] }, { accessFlags := 26, nameIndex := 26, descriptorIndex := 22, attributes := #[] }, { accessFlags := 26, nameIndex := 28, descriptorIndex := 22, attributes := #[] }, { accessFlags := 26, nameIndex := 30, descriptorIndex := 22, attributes := #[] }, { accessFlags := 26, nameIndex := 32, descriptorIndex := 22, attributes := #[] }, { accessFlags := 26, nameIndex := 34, descriptorIndex := 22, attributes := #[] }, { accessFlags := 26, nameIndex := 36, descriptorIndex := 22, attributes := #[] }, { accessFlags := 26, nameIndex := 38, descriptorIndex := 22, attributes := #[] }])
  fields := #[{ name := "S_BASE", type := .int, accessFlags := 26, slot := 0, constantValue := 0 }, { name := "L_BASE", type := .int, accessFlags := 26, slot := 1, constantValue := 0 }, { name := "V_BASE", type := .int, accessFlags := 26, slot := 2, constantValue := 0 }, { name := "T_BASE", type := .int, accessFlags := 26, slot := 3, constantValue := 0 }, { name := "L_COUNT", type := .int, accessFlags := 26, slot := 4, constantValue := 0 }, { name := "V_COUNT", type := .int, accessFlags := 26, slot := 5, constantValue := 0 }, { name := "T_COUNT", type := .int, accessFlags := 26, slot := 6, constantValue := 0 }, { name := "N_COUNT", type := .int, accessFlags := 26, slot := 7, constantValue := 0 }, { name := "S_COUNT", type := .int, accessFlags := 26, slot := 8, constantValue := 0 }]
  methods := #[k2m0, k2m1]
  instanceTypes := #[]
  staticTypes := #[.int, .int, .int, .int, .int, .int, .int, .int, .int]
  resolved := Array.replicate 54 none
  statics := none }

def pool3 : Array CpInfo := pool [(1, u "java/lang/Cloneable"), (0, .class_ 1), (0, u "java/lang/Object"), (0, .class_ 3)] 3

/-- java/lang/Cloneable -/
def k3 : Class := { plain "java/lang/Cloneable" (some 0) with
  accessFlags := 1537
  interfaces := #[]
  cf := some (fileOf pool3 2 #[] #[] 1537 4 #[] #[])
  fields := #[]
  methods := #[]
  instanceTypes := #[]
  staticTypes := #[]
  resolved := Array.replicate 8 none
  statics := none }

def pool4 : Array CpInfo := pool [(1, u "java/io/Serializable"), (0, .class_ 1), (0, u "java/lang/Object"), (0, .class_ 3)] 3

/-- java/io/Serializable -/
def k4 : Class := { plain "java/io/Serializable" (some 0) with
  accessFlags := 1537
  interfaces := #[]
  cf := some (fileOf pool4 2 #[] #[] 1537 4 #[] #[])
  fields := #[]
  methods := #[]
  instanceTypes := #[]
  staticTypes := #[]
  resolved := Array.replicate 8 none
  statics := none }

/-- the primitive byte -/
def k5 : Class := { plain "byte" none with kind := .primitive 'B', accessFlags := 0x411 }
/-- [B -/
def k6 : Class := { plain "[B" (some 0) with kind := .array 5 .byte, interfaces := #[3, 4], accessFlags := 1041 }

/-- the primitive int -/
def k7 : Class := { plain "int" none with kind := .primitive 'I', accessFlags := 0x411 }
/-- [I -/
def k8 : Class := { plain "[I" (some 0) with kind := .array 7 .int, interfaces := #[3, 4], accessFlags := 1041 }

def heap : Heap := #[]
def classes : Array Class := #[k0, k1, k2, k3, k4, k5, k6, k7, k8]
def interned : List (Array UInt16 × Addr) := []
def slotsUsed : Nat := 0
def theMethod : MethodId := ⟨1, 1⟩
def args0 : Array Value := #[.int 5, .int 5, .int 5]
def aboutOver (below : List Frame) : State where
  vm := { classes := classes, interned := interned.toArray }
  heap := heap
  slotsUsed := slotsUsed
  threads := #[{ frames := .invoking theMethod args0 :: below }]
def below0 : List Frame := [.native { method := ⟨0, 0⟩, args := #[] }]
def about1 : State := aboutOver below0
def p0 : Program := .bare "" "" ""
def e0 : Env := launch0.env 0 0 0
theorem w_frames : about1.frames = Frame.invoking theMethod args0 :: below0 := rfl
set_option maxRecDepth 65536 in
theorem w_args : argsFit about1.vm theMethod args0 = true := by decide +kernel
set_option maxRecDepth 65536 in
theorem w_heap : heapFits about1 = true := by decide +kernel
set_option maxRecDepth 65536 in
theorem w_runnable : about1.curStatus? = some .runnable := by decide +kernel
set_option maxRecDepth 65536 in
theorem w_alone : about1.alone = true := by decide +kernel
set_option maxRecDepth 65536 in
theorem w_named : about1.methodNamed? x = some theMethod := by decide +kernel
set_option maxRecDepth 65536 in
theorem w_hears : about1.hears theMethod below0 = true := by decide +kernel
set_option maxRecDepth 65536 in
theorem w_ripe : about1.ripe theMethod args0 below0 = true := by decide +kernel
theorem w_running : about1.status = .running := rfl
set_option maxRecDepth 65536 in
theorem w_room : about1.hasRoom e0.platform room_1 = true :=
  launch0.hasRoom_least _ room_1 (by decide +kernel) (by decide +kernel) (by decide +kernel) (by decide +kernel) (by decide +kernel) (by decide +kernel)
theorem allAtoms_all (ts : List Jvm.Cond) (a : Array Jvm.Value) (st : Jvm.State) : (allAtoms ts).before a st = ts.all (fun c => c.before a st) := by
  induction ts with
  | nil => rfl
  | cons c t ih =>
    show (Jvm.Cond.and c (allAtoms t)).before a st = _
    rw [Jvm.Cond.before_and, ih, List.all_cons]
def words1 : List Jvm.Cond := Jvm.Cond.code x code maxLocals ret :: tables_1
/-- a 'code' word, met by the world's own term for the bytes: nothing is compared byte by byte -/
theorem code_word {y : MethodName} {bytes : ByteArray} {mx : Nat} {rt : Option FieldType} {a : Array Value} {s : State} {m : MethodId} {meth : Method} {c : Code} (h1 : s.methodNamed? y = some m) (h2 : s.vm.method? m = some meth) (h3 : meth.code = some c) (h4 : c.code = bytes)
    (h5 : (c.maxLocals == mx && c.exceptionTable.isEmpty && decide (c.maxStack ≤ mostOperands) && decide (meth.sig.returnType = rt) && !meth.locks && decide (parseMethodDescriptor y.desc = some meth.sig)) = true) : (Jvm.Cond.code y bytes mx rt).before a s = true := by
  simp only [Bool.and_eq_true, beq_iff_eq, Bool.not_eq_true', decide_eq_true_eq] at h5
  obtain ⟨⟨⟨⟨⟨g1, g2⟩, g3⟩, g4⟩, g5⟩, g6⟩ := h5
  simp [Cond.before, Cond.holds, Cond.value, h1, h2, h3, h4, g1, g2, g3, g4, g5, g6]
def isCode : Jvm.Cond → Bool
  | .code _ _ _ _ => true
  | _ => false
theorem all_split {L : List Jvm.Cond} {P : Jvm.Cond → Bool} (h1 : L.all (fun c => isCode c || P c) = true) (h2 : ∀ c ∈ L.filter isCode, P c = true) : L.all P = true := by
  refine List.all_eq_true.mpr fun c hc => ?_
  have h := List.all_eq_true.mp h1 c hc
  rcases Bool.eq_false_or_eq_true (isCode c) with hi | hi
  · exact h2 c (List.mem_filter.mpr ⟨hc, hi⟩)
  · simpa [hi] using h
set_option maxRecDepth 65536 in
theorem w_c0 : (Jvm.Cond.code x code maxLocals ret).before args0 about1 = true := code_word (m := ⟨1, 1⟩) (meth := k1m1) (c := k1c1) (by decide +kernel) rfl rfl rfl (by decide +kernel)
set_option maxRecDepth 65536 in
theorem w_c1 : (Jvm.Cond.code ({ cls := "com/example/pvalid/pvalid/unicode/Hangul", name := "decompose", desc := "(I)[I" } : Jvm.MethodName) prog_66_method_4_code (5 : Nat) (Option.some (Jvm.ClassFile.FieldType.array Jvm.ClassFile.FieldType.int))).before args0 about1 = true := code_word (m := ⟨2, 1⟩) (meth := k2m1) (c := k2c1) (by decide +kernel) rfl rfl rfl (by decide +kernel)
def codes1 : List Jvm.Cond := [Jvm.Cond.code x code maxLocals ret, Jvm.Cond.code ({ cls := "com/example/pvalid/pvalid/unicode/Hangul", name := "decompose", desc := "(I)[I" } : Jvm.MethodName) prog_66_method_4_code (5 : Nat) (Option.some (Jvm.ClassFile.FieldType.array Jvm.ClassFile.FieldType.int))]
set_option maxRecDepth 65536 in
theorem codes_eq : words1.filter isCode = codes1 := rfl
theorem w_codes : ∀ c ∈ words1.filter isCode, c.before args0 about1 = true := by
  rw [codes_eq]
  intro c hc
  simp only [codes1, List.mem_cons, List.not_mem_nil, or_false] at hc
  rcases hc with rfl | rfl
  · exact w_c0
  · exact w_c1
set_option maxRecDepth 65536 in
theorem w_t1 : words1.all (fun c => isCode c || c.before args0 about1) = true := by decide +kernel
theorem w_tables : (allAtoms (Jvm.Cond.code x code maxLocals ret :: tables_1)).before args0 about1 = true := by
  rw [allAtoms_all]
  show words1.all (fun c => c.before args0 about1) = true
  refine all_split ?_ w_codes
  rw [w_t1]
set_option maxRecDepth 65536 in
theorem w_case : (Jvm.Cond.and given_1 narrow_1).before args0 about1 = true := by decide +kernel
theorem w_applies : (headSpec (Jvm.Cond.code x code maxLocals ret :: tables_1) room_1).applies x e0.platform about1 = true :=
  (Spec.applies_iff w_frames).mpr ⟨w_running, w_runnable, w_alone, w_named, w_hears, w_ripe, w_room, w_tables⟩
theorem atStart : AtStart classFile x code maxLocals ret World_1 tables_1 room_1 Calls_1 rest_1 Pre_1 launch0 p0 e0 about1 theMethod args0 below0 :=
  ⟨lists_1, trivial, launch0.admits_env _ _ _, launch0.least_env, fairChoices_fair.cas, fairChoices_fair.clock, w_frames, w_args, w_heap, w_applies, trivial, trivial, w_case⟩
end start1
theorem witness_1 : WitnessClaimed_1 := ⟨start1.p0, start1.e0, start1.about1, start1.theMethod, start1.args0, start1.below0, start1.atStart⟩
end Jvm.Pilot.@@N@@
