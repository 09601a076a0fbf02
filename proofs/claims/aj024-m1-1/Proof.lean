import JvmDerived
import JvmDerived.Pilot.@@N@@Statement
import JvmDerived.Pilot.@@N@@Code
set_option linter.unusedVariables false
set_option linter.unusedSimpArgs false
@@BLOCK:NumsL.lean.txt@@
namespace Jvm.Pilot.@@N@@
open Jvm Jvm.ClassFile Sem Op Lib Jvm.Free Jvm.Stand Jvm.LawKit Jvm.RoadKit Bundle Jvm.Pilot.@@N@@.Jvm.D

/-! the walk's own small kit: from the frame g over the state T the body comes to its end, with Φ -/
def own_Go (p : Program) (e : Env) (below : List Frame) (T : State) (g : JFrame) (Φ : Outcome → State → Prop) : Prop :=
  ∃ s₂ o, Steps p.tables e below (T.setTop g) s₂ ∧ s₂.status = .running ∧ Ended s₂ below o ∧ Φ o s₂
def own_Fin (s : State) (Q : Option Value → Heap → List Loc → Prop) (k j : Nat) (o : Outcome) (U' : State) : Prop :=
  ∃ v L, o = .returned v ∧ Q v U'.heap L ∧ FrameEnd s o U' L k j
theorem own_by {p : Program} {e : Env} {below : List Frame} {T T' : State} {g g' : JFrame} {Φ : Outcome → State → Prop}
    (h : ∀ t, Steps p.tables e below (T'.setTop g') t → Steps p.tables e below (T.setTop g) t) (k : own_Go p e below T' g' Φ) : own_Go p e below T g Φ := by
  obtain ⟨s₂, o, h1, h2⟩ := k
  exact ⟨s₂, o, h _ h1, h2⟩
theorem own_start {p : Program} {e : Env} {below : List Frame} {s T : State} {g g' : JFrame} {Q : Option Value → Heap → List Loc → Prop} {k j : Nat} (hg : g = g')
    (h : own_Go p e below T g' (own_Fin s Q k j)) : ∃ s₂ o, Steps p.tables e below (T.setTop g) s₂ ∧ s₂.status = .running ∧ Ended s₂ below o ∧ ∃ v L, o = .returned v ∧ Q v s₂.heap L ∧ FrameEnd s o s₂ L k j := by
  subst hg
  exact h
section OwnRet
variable {p : Program} {l : Launch} {e : Env} {R : Room} {s : State} {m : MethodId} {args : Array Value} {below : List Frame} {meth : Method} {c : Code} {T : State} {locs : List Loc} {cells slots : Nat} {Q : Option Value → Heap → List Loc → Prop} {k j pc : Nat} {Ls : Array Slot} {rest : List Value}
theorem own_retN {t : FieldType} (ht : t = .boolean ∨ t = .byte ∨ t = .char ∨ t = .short) (X : Stand p l e R s m args below meth c T locs cells slots) (hx : p.tables.exec = Jvm.exec) (hret : meth.sig.returnType = some t) (hlk : meth.locks = false) {z : Int32} (hd : decode c.code pc = .ok (.ireturn, 1))
    (hz : nar t z = z) (hk : cells ≤ k) (hj : slots ≤ j) (q : Q (some (.int z)) T.heap locs) : own_Go p e below T (mkF m pc Ls (.int z :: rest)) (own_Fin s Q k j) := by
  obtain ⟨fs, hr, hrun, hended, hW, hsame⟩ := X.leave (v := some (.int z)) (fun h => by rw [hret] at h; cases h)
  exact ⟨_, _, retN X hx hret ht hd (by rw [hz]; exact hr), hrun, hended, _, _, rfl, q, ⟨_, rfl⟩, hW, hsame.mono hk hj⟩
theorem own_retZ (X : Stand p l e R s m args below meth c T locs cells slots) (hx : p.tables.exec = Jvm.exec) (hret : meth.sig.returnType = some .boolean) (hlk : meth.locks = false) {z : Int32} (hd : decode c.code pc = .ok (.ireturn, 1))
    (hz : nar .boolean z = z) (hk : cells ≤ k) (hj : slots ≤ j) (q : Q (some (.int z)) T.heap locs) : own_Go p e below T (mkF m pc Ls (.int z :: rest)) (own_Fin s Q k j) := own_retN (Or.inl rfl) X hx hret hlk hd hz hk hj q
theorem own_retI (X : Stand p l e R s m args below meth c T locs cells slots) (hx : p.tables.exec = Jvm.exec) (hret : meth.sig.returnType = some .int) (hlk : meth.locks = false) {z : Int32} (hd : decode c.code pc = .ok (.ireturn, 1))
    (hk : cells ≤ k) (hj : slots ≤ j) (q : Q (some (.int z)) T.heap locs) : own_Go p e below T (mkF m pc Ls (.int z :: rest)) (own_Fin s Q k j) := by
  obtain ⟨fs, hr, hrun, hended, hW, hsame⟩ := X.leave (v := some (.int z)) (fun h => by rw [hret] at h; cases h)
  exact ⟨_, _, retOut X hx hret rfl (Or.inl ⟨rfl, Or.inl rfl, z, rfl⟩) hd hr, hrun, hended, _, _, rfl, q, ⟨_, rfl⟩, hW, hsame.mono hk hj⟩
theorem own_retJ (X : Stand p l e R s m args below meth c T locs cells slots) (hx : p.tables.exec = Jvm.exec) (hret : meth.sig.returnType = some .long) (hlk : meth.locks = false) {z : Int64} (hd : decode c.code pc = .ok (.lreturn, 1))
    (hk : cells ≤ k) (hj : slots ≤ j) (q : Q (some (.long z)) T.heap locs) : own_Go p e below T (mkF m pc Ls (.long z :: rest)) (own_Fin s Q k j) := by
  obtain ⟨fs, hr, hrun, hended, hW, hsame⟩ := X.leave (v := some (.long z)) (fun h => by rw [hret] at h; cases h)
  exact ⟨_, _, retOut X hx hret rfl (Or.inr (Or.inl ⟨rfl, rfl, z, rfl⟩)) hd hr, hrun, hended, _, _, rfl, q, ⟨_, rfl⟩, hW, hsame.mono hk hj⟩
theorem own_retA {t : FieldType} (X : Stand p l e R s m args below meth c T locs cells slots) (hx : p.tables.exec = Jvm.exec) (hret : meth.sig.returnType = some t) (hlk : meth.locks = false) {z : Value} (hd : decode c.code pc = .ok (.areturn, 1))
    (ht : t.isReference = true) (hz : z.isRef = true) (hn : narrow t z = z) (hk : cells ≤ k) (hj : slots ≤ j) (q : Q (some z) T.heap locs) : own_Go p e below T (mkF m pc Ls (z :: rest)) (own_Fin s Q k j) := by
  obtain ⟨fs, hr, hrun, hended, hW, hsame⟩ := X.leave (v := some z) (fun h => by rw [hret] at h; cases h)
  exact ⟨_, _, retOut X hx hret hn (Or.inr (Or.inr (Or.inr (Or.inr ⟨rfl, ht, hz⟩)))) hd hr, hrun, hended, _, _, rfl, q, ⟨_, rfl⟩, hW, hsame.mono hk hj⟩
theorem own_retV (X : Stand p l e R s m args below meth c T locs cells slots) (hx : p.tables.exec = Jvm.exec) (hret : meth.sig.returnType = none) (hlk : meth.locks = false) (hd : decode c.code pc = .ok (.return_, 1))
    (hk : cells ≤ k) (hj : slots ≤ j) (q : Q none T.heap locs) : own_Go p e below T (mkF m pc Ls []) (own_Fin s Q k j) := by
  obtain ⟨fs, hr, hrun, hended, hW, hsame⟩ := X.leave (v := none) (fun _ => rfl)
  exact ⟨_, _, X.returnOut hx hret hd hr, hrun, hended, _, _, rfl, q, ⟨_, rfl⟩, hW, hsame.mono hk hj⟩
theorem own_lrem_eq (x y : Int64) : x - x / y * y = x % y := Int64.toInt_inj.mp (by rw [Jvm.Kit.i64_rem, Int64.toInt_mod])
theorem own_lrem {g : JFrame} {target : State} (X : Stand p l e R s m args below meth c T locs cells slots) (hx : p.tables.exec = Jvm.exec) (hg : g.method = m) {x y : Int64} {rest : List Value} (hd : decode c.code g.pc = .ok (.lrem, 1)) (hs : g.stack = .long y :: .long x :: rest) (hy : y ≠ 0)
    (hr : Steps p.tables e below (T.setTop { g with pc := g.pc + 1, stack := .long (x % y) :: rest }) target) : Steps p.tables e below (T.setTop g) target :=
  XS.lrem X.here hx hg hd hs hy (by rw [own_lrem_eq x y]; exact hr)
end OwnRet
/-! an array: its length, and what each place holds -/
abbrev own_At (j : Int32) (k : Nat) : Prop := ¬ j < 0 ∧ j.toNatClampNeg = k
def own_upd (f : Nat → Value) (k : Nat) (v : Value) : Nat → Value := fun i => if i = k then v else f i
theorem own_upd_hit {f : Nat → Value} {k i : Nat} {v : Value} (h : i = k) : own_upd f k v i = v := if_pos h
theorem own_upd_miss {f : Nat → Value} {k i : Nat} {v : Value} (h : ¬ i = k) : own_upd f k v i = f i := if_neg h
def own_Av (Z : State) (h : Heap) (a : Addr) (ty : FieldType) (n : Nat) (f : Nat → Value) : Prop := ∃ c : Cell, Arr Z h a c ty ∧ c.slots.size = n ∧ ∀ i, i < n → c.slots[i]? = some (f i)
section OwnArr
variable {Z : State} {h h' : Heap} {a b : Addr} {ty : FieldType} {n k sl : Nat} {f : Nat → Value} {v : Value} {ws : List Addr}
theorem own_Av.ext (F : own_Av Z h a ty n f) (E : Ext h h') : own_Av Z h' a ty n f := by obtain ⟨c, A, r⟩ := F; exact ⟨c, A.ext E, r⟩
theorem own_Av.other (F : own_Av Z h b ty n f) (W : Wr h h' a sl v) (q : b ≠ a) : own_Av Z h' b ty n f := by obtain ⟨c, A, r⟩ := F; exact ⟨c, A.other W q, r⟩
theorem own_Av.keep (F : own_Av Z h a ty n f) (K : Keep h h' ws) (q : a ∉ ws) : own_Av Z h' a ty n f := by obtain ⟨c, A, r⟩ := F; exact ⟨c, ⟨K.2.1 a c A.1 q, A.2⟩, r⟩
theorem own_Av.lt (F : own_Av Z h a ty n f) : a < h.size := by obtain ⟨c, A, -⟩ := F; exact A.lt
theorem own_Av.ofnew {z : Int32} {kc : ClassId} {d : Value} (A : Arr Z h a (newA kc ty z) ty) (hn : z.toNatClampNeg = n) (hd : defaultValue ty = d) : own_Av Z h a ty n (fun _ => d) := by
  subst hn hd
  exact ⟨_, A, sz_new _ _ _, fun i hi => by simp [newA, hi]⟩
theorem own_Av.set (F : own_Av Z h a ty n f) (W : Wr h h' a k v) : own_Av Z h' a ty n (own_upd f k v) := by
  obtain ⟨c, A, S, H⟩ := F
  refine ⟨_, A.same W, by rw [sz_set]; exact S, fun i hi => ?_⟩
  by_cases q : i = k
  · subst q
    rw [own_upd_hit rfl]
    simp [Cell.setSlot, S, hi]
  · rw [own_upd_miss q, ← H i hi]
    exact Array.getElem?_setIfInBounds_ne fun u => q u.symm
theorem own_Av.cong {g : Nat → Value} {n' : Nat} (F : own_Av Z h a ty n f) (hn : n = n') (q : ∀ i, i < n → f i = g i) : own_Av Z h a ty n' g := by
  subst hn
  obtain ⟨c, A, S, H⟩ := F
  exact ⟨c, A, S, fun i hi => by rw [← q i hi]; exact H i hi⟩
theorem own_in {j : Int32} (hj : own_At j k) (hk : k < n) {c : Cell} (S : c.slots.size = n) : ¬ (j < 0 ∨ c.slots.size ≤ j.toNatClampNeg) := by
  intro q
  rcases q with q | q
  · exact hj.1 q
  · rw [hj.2, S] at q; omega
variable {p : Program} {l : Launch} {e : Env} {R : Room} {s : State} {m : MethodId} {args : Array Value} {below : List Frame} {meth : Method} {c : Code} {T : State} {locs : List Loc} {cells slots : Nat}
theorem own_ldI (X : Stand p l e R s m args below meth c T locs cells slots) (hx : p.tables.exec = Jvm.exec) (hZ : Z.Warmed39 s.vm) (eT : T.heap = h) (F : own_Av Z h a .int n f) {j : Int32} (hj : own_At j k) (hk : k < n) (hv : f k = v)
    {g : JFrame} (hg : g.method = m) {rest : List Value} (hs : g.stack = .int j :: .ref a :: rest) (hd : decode c.code g.pc = .ok (.iaload, 1)) (t : State)
    (hr : Steps p.tables e below (T.setTop { g with pc := g.pc + 1, stack := v :: rest }) t) : Steps p.tables e below (T.setTop g) t := by
  obtain ⟨cl, A, S, H⟩ := F
  exact X.iaload hx (by rw [eT]; exact A.1) (State.isArrayOf_alike hZ.alike A.2.1) A.2.2 (own_in hj hk S) (by rw [hj.2, H k hk, hv]) hg hs hd t hr
theorem own_ldJ (X : Stand p l e R s m args below meth c T locs cells slots) (hx : p.tables.exec = Jvm.exec) (hZ : Z.Warmed39 s.vm) (eT : T.heap = h) (F : own_Av Z h a .long n f) {j : Int32} (hj : own_At j k) (hk : k < n) (hv : f k = v)
    {g : JFrame} (hg : g.method = m) {rest : List Value} (hs : g.stack = .int j :: .ref a :: rest) (hd : decode c.code g.pc = .ok (.laload, 1)) (t : State)
    (hr : Steps p.tables e below (T.setTop { g with pc := g.pc + 1, stack := v :: rest }) t) : Steps p.tables e below (T.setTop g) t := by
  obtain ⟨cl, A, S, H⟩ := F
  exact X.laload hx (by rw [eT]; exact A.1) (State.isArrayOf_alike hZ.alike A.2.1) A.2.2 (own_in hj hk S) (by rw [hj.2, H k hk, hv]) hg hs hd t hr
theorem own_ldS (X : Stand p l e R s m args below meth c T locs cells slots) (hx : p.tables.exec = Jvm.exec) (hZ : Z.Warmed39 s.vm) (eT : T.heap = h) (F : own_Av Z h a .short n f) {j : Int32} (hj : own_At j k) (hk : k < n) (hv : f k = v)
    {g : JFrame} (hg : g.method = m) {rest : List Value} (hs : g.stack = .int j :: .ref a :: rest) (hd : decode c.code g.pc = .ok (.saload, 1)) (t : State)
    (hr : Steps p.tables e below (T.setTop { g with pc := g.pc + 1, stack := v :: rest }) t) : Steps p.tables e below (T.setTop g) t := by
  obtain ⟨cl, A, S, H⟩ := F
  exact X.saload hx (by rw [eT]; exact A.1) (State.isArrayOf_alike hZ.alike A.2.1) A.2.2 (own_in hj hk S) (by rw [hj.2, H k hk, hv]) hg hs hd t hr
theorem own_ldC (X : Stand p l e R s m args below meth c T locs cells slots) (hx : p.tables.exec = Jvm.exec) (hZ : Z.Warmed39 s.vm) (eT : T.heap = h) (F : own_Av Z h a .char n f) {j : Int32} (hj : own_At j k) (hk : k < n) (hv : f k = v)
    {g : JFrame} (hg : g.method = m) {rest : List Value} (hs : g.stack = .int j :: .ref a :: rest) (hd : decode c.code g.pc = .ok (.caload, 1)) (t : State)
    (hr : Steps p.tables e below (T.setTop { g with pc := g.pc + 1, stack := v :: rest }) t) : Steps p.tables e below (T.setTop g) t := by
  obtain ⟨cl, A, S, H⟩ := F
  exact X.caload hx (by rw [eT]; exact A.1) (State.isArrayOf_alike hZ.alike A.2.1) A.2.2 (own_in hj hk S) (by rw [hj.2, H k hk, hv]) hg hs hd t hr
theorem own_ldB (X : Stand p l e R s m args below meth c T locs cells slots) (hx : p.tables.exec = Jvm.exec) (hZ : Z.Warmed39 s.vm) (eT : T.heap = h) (F : own_Av Z h a .byte n f) {j : Int32} (hj : own_At j k) (hk : k < n) (hv : f k = v)
    {g : JFrame} (hg : g.method = m) {rest : List Value} (hs : g.stack = .int j :: .ref a :: rest) (hd : decode c.code g.pc = .ok (.baload, 1)) (t : State)
    (hr : Steps p.tables e below (T.setTop { g with pc := g.pc + 1, stack := v :: rest }) t) : Steps p.tables e below (T.setTop g) t := by
  obtain ⟨cl, A, S, H⟩ := F
  exact X.baloadBytes hx (by rw [eT]; exact A.1) (State.isArrayOf_alike hZ.alike A.2.1) A.2.2 (own_in hj hk S) (by rw [hj.2, H k hk, hv]) hg hs hd t hr
theorem own_ldZ (X : Stand p l e R s m args below meth c T locs cells slots) (hx : p.tables.exec = Jvm.exec) (hZ : Z.Warmed39 s.vm) (eT : T.heap = h) (F : own_Av Z h a .boolean n f) {j : Int32} (hj : own_At j k) (hk : k < n) (hv : f k = v)
    {g : JFrame} (hg : g.method = m) {rest : List Value} (hs : g.stack = .int j :: .ref a :: rest) (hd : decode c.code g.pc = .ok (.baload, 1)) (t : State)
    (hr : Steps p.tables e below (T.setTop { g with pc := g.pc + 1, stack := v :: rest }) t) : Steps p.tables e below (T.setTop g) t := by
  obtain ⟨cl, A, S, H⟩ := F
  exact X.baloadBooleans hx (by rw [eT]; exact A.1) (State.isArrayOf_alike hZ.alike A.2.1) A.2.2 (own_in hj hk S) (by rw [hj.2, H k hk, hv]) hg hs hd t hr
theorem own_len (X : Stand p l e R s m args below meth c T locs cells slots) (hx : p.tables.exec = Jvm.exec) (hZ : Z.Warmed39 s.vm) (eT : T.heap = h) (F : own_Av Z h a ty n f) {z : Int32} (hz : n.toInt32 = z)
    {g : JFrame} (hg : g.method = m) {rest : List Value} (hs : g.stack = .ref a :: rest) (hd : decode c.code g.pc = .ok (.arraylength, 1)) (t : State)
    (hr : Steps p.tables e below (T.setTop { g with pc := g.pc + 1, stack := .int z :: rest }) t) : Steps p.tables e below (T.setTop g) t := by
  obtain ⟨cl, A, S, H⟩ := F
  exact X.arraylength hx (by rw [eT]; exact A.1) (State.isArrayOf_alike hZ.alike A.2.1) hg hs hd t (by rw [S, hz]; exact hr)
theorem own_stI (X : Stand p l e R s m args below meth c T locs cells slots) (hx : p.tables.exec = Jvm.exec) (hZ : Z.Warmed39 s.vm) (eT : T.heap = h) (F : own_Av Z h a .int n f) {j x : Int32} (hj : own_At j k) (hk : k < n)
    {g : JFrame} (hg : g.method = m) {rest : List Value} (hs : g.stack = .int x :: .int j :: .ref a :: rest) (hd : decode c.code g.pc = .ok (.iastore, 1)) :
    ∃ T' h', Stand p l e R s m args below meth c T' (locs ++ [⟨a, k⟩]) cells slots ∧ T'.heap = h' ∧ Wr h h' a k (.int x) ∧ own_Av Z h' a .int n (own_upd f k (.int x)) ∧ ∀ target, Steps p.tables e below (T'.setTop { g with pc := g.pc + 1, stack := rest }) target → Steps p.tables e below (T.setTop g) target := by
  obtain ⟨cl, A, S, H⟩ := id F
  obtain ⟨T', h', X', e', W', st⟩ := stI X hx hZ eT A (own_in hj hk S) hg hs hd
  rw [hj.2] at X' W'
  exact ⟨T', h', X', e', W', F.set W', st⟩
theorem own_stJ (X : Stand p l e R s m args below meth c T locs cells slots) (hx : p.tables.exec = Jvm.exec) (hZ : Z.Warmed39 s.vm) (eT : T.heap = h) (F : own_Av Z h a .long n f) {j : Int32} {x : Int64} (hj : own_At j k) (hk : k < n)
    {g : JFrame} (hg : g.method = m) {rest : List Value} (hs : g.stack = .long x :: .int j :: .ref a :: rest) (hd : decode c.code g.pc = .ok (.lastore, 1)) :
    ∃ T' h', Stand p l e R s m args below meth c T' (locs ++ [⟨a, k⟩]) cells slots ∧ T'.heap = h' ∧ Wr h h' a k (.long x) ∧ own_Av Z h' a .long n (own_upd f k (.long x)) ∧ ∀ target, Steps p.tables e below (T'.setTop { g with pc := g.pc + 1, stack := rest }) target → Steps p.tables e below (T.setTop g) target := by
  obtain ⟨cl, A, S, H⟩ := id F
  obtain ⟨T', h', X', e', W', st⟩ := stJ X hx hZ eT A (own_in hj hk S) hg hs hd
  rw [hj.2] at X' W'
  exact ⟨T', h', X', e', W', F.set W', st⟩
theorem own_stB (X : Stand p l e R s m args below meth c T locs cells slots) (hx : p.tables.exec = Jvm.exec) (hZ : Z.Warmed39 s.vm) (eT : T.heap = h) (F : own_Av Z h a .byte n f) {j x : Int32} (hj : own_At j k) (hk : k < n)
    {g : JFrame} (hg : g.method = m) {rest : List Value} (hs : g.stack = .int x :: .int j :: .ref a :: rest) (hd : decode c.code g.pc = .ok (.bastore, 1)) :
    ∃ T' h', Stand p l e R s m args below meth c T' (locs ++ [⟨a, k⟩]) cells slots ∧ T'.heap = h' ∧ Wr h h' a k (.int x.toInt8.toInt32) ∧ own_Av Z h' a .byte n (own_upd f k (.int x.toInt8.toInt32)) ∧ ∀ target, Steps p.tables e below (T'.setTop { g with pc := g.pc + 1, stack := rest }) target → Steps p.tables e below (T.setTop g) target := by
  obtain ⟨cl, A, S, H⟩ := id F
  obtain ⟨T', h', X', e', W', st⟩ := stB X hx hZ eT A (own_in hj hk S) hg hs hd
  rw [hj.2] at X' W'
  exact ⟨T', h', X', e', W', F.set W', st⟩
theorem own_stZ (X : Stand p l e R s m args below meth c T locs cells slots) (hx : p.tables.exec = Jvm.exec) (hZ : Z.Warmed39 s.vm) (eT : T.heap = h) (F : own_Av Z h a .boolean n f) {j x : Int32} (hj : own_At j k) (hk : k < n)
    {g : JFrame} (hg : g.method = m) {rest : List Value} (hs : g.stack = .int x :: .int j :: .ref a :: rest) (hd : decode c.code g.pc = .ok (.bastore, 1)) :
    ∃ T' h', Stand p l e R s m args below meth c T' (locs ++ [⟨a, k⟩]) cells slots ∧ T'.heap = h' ∧ Wr h h' a k (.int (x &&& 1)) ∧ own_Av Z h' a .boolean n (own_upd f k (.int (x &&& 1))) ∧ ∀ target, Steps p.tables e below (T'.setTop { g with pc := g.pc + 1, stack := rest }) target → Steps p.tables e below (T.setTop g) target := by
  obtain ⟨cl, A, S, H⟩ := id F
  obtain ⟨T', h', X', e', W', st⟩ := stZ X hx hZ eT A (own_in hj hk S) hg hs hd
  rw [hj.2] at X' W'
  exact ⟨T', h', X', e', W', F.set W', st⟩
theorem own_stC (X : Stand p l e R s m args below meth c T locs cells slots) (hx : p.tables.exec = Jvm.exec) (hZ : Z.Warmed39 s.vm) (eT : T.heap = h) (F : own_Av Z h a .char n f) {j x : Int32} (hj : own_At j k) (hk : k < n)
    {g : JFrame} (hg : g.method = m) {rest : List Value} (hs : g.stack = .int x :: .int j :: .ref a :: rest) (hd : decode c.code g.pc = .ok (.castore, 1)) :
    ∃ T' h', Stand p l e R s m args below meth c T' (locs ++ [⟨a, k⟩]) cells slots ∧ T'.heap = h' ∧ Wr h h' a k (.int (nar .char x)) ∧ own_Av Z h' a .char n (own_upd f k (.int (nar .char x))) ∧ ∀ target, Steps p.tables e below (T'.setTop { g with pc := g.pc + 1, stack := rest }) target → Steps p.tables e below (T.setTop g) target := by
  obtain ⟨cl, A, S, H⟩ := id F
  obtain ⟨T', h', X', e', W', st⟩ := stC X hx hZ eT A (own_in hj hk S) hg hs hd
  rw [hj.2] at X' W'
  exact ⟨T', h', X', e', W', F.set W', st⟩
theorem own_stS (X : Stand p l e R s m args below meth c T locs cells slots) (hx : p.tables.exec = Jvm.exec) (hZ : Z.Warmed39 s.vm) (eT : T.heap = h) (F : own_Av Z h a .short n f) {j x : Int32} (hj : own_At j k) (hk : k < n)
    {g : JFrame} (hg : g.method = m) {rest : List Value} (hs : g.stack = .int x :: .int j :: .ref a :: rest) (hd : decode c.code g.pc = .ok (.sastore, 1)) :
    ∃ T' h', Stand p l e R s m args below meth c T' (locs ++ [⟨a, k⟩]) cells slots ∧ T'.heap = h' ∧ Wr h h' a k (.int (nar .short x)) ∧ own_Av Z h' a .short n (own_upd f k (.int (nar .short x))) ∧ ∀ target, Steps p.tables e below (T'.setTop { g with pc := g.pc + 1, stack := rest }) target → Steps p.tables e below (T.setTop g) target := by
  obtain ⟨cl, A, S, H⟩ := id F
  obtain ⟨T', h', X', e', W', st⟩ := stS X hx hZ eT A (own_in hj hk S) hg hs hd
  rw [hj.2] at X' W'
  exact ⟨T', h', X', e', W', F.set W', st⟩
end OwnArr
theorem own_selP {Z s : State} {a0 args : Array Value} {y : MethodName} {n : Nat} (hZ : Z.Warmed39 s.vm) (wi : (Cond.instantiable y.cls n).before a0 Z = true) (wp : (Cond.privateMethod y).before a0 Z = true) (wm : (Cond.instanceMethod y).before a0 Z = true)
    (hy : y.cls ≠ "java/lang/invoke/MethodHandle" ∧ y.cls ≠ "java/lang/invoke/VarHandle") : (Cond.selects y.cls y y).before args s = true := by
  have w : (Cond.instantiable y.cls n).before args s = true := mvT hZ wi
  obtain ⟨c, k, h1, h2, -, h4, -⟩ := Cond.instantiable_spec w
  exact Jvm.Stand.selects_self_of_private h1 h2 (Bool.or_eq_false_iff.mp h4).1 (Cond.privateMethod_at (mvP hZ wp (args := args))) (mvT hZ wm) hy
theorem own_narZ {x : Int32} (h : x &&& 1 = x) : narrow .boolean (.int x) = .int x := by
  show Value.int (x &&& 1) = _
  rw [h]
theorem own_fitZ {x : Int32} (h : x &&& 1 = x) : fits .boolean (.int x) = true := by
  have q := fits_nar_bool x
  rw [show nar .boolean x = x from h] at q
  exact q
theorem own_mono {p : Program} {e : Env} {below : List Frame} {s T : State} {g : JFrame} {Q Q' : Option Value → Heap → List Loc → Prop} {k j : Nat} (h : ∀ v h L, Q v h L → Q' v h L) (G : own_Go p e below T g (own_Fin s Q k j)) : own_Go p e below T g (own_Fin s Q' k j) := by
  obtain ⟨s₂, o, h1, h2, h3, v, L, h4, h5, h6⟩ := G
  exact ⟨s₂, o, h1, h2, h3, v, L, h4, h _ _ _ h5, h6⟩
theorem own_ofs (i : Nat) : Int32.ofNat i + (1 : Int32) = Int32.ofNat (i + 1) := (Int32.ofNat_add i 1).symm
theorem own_toI {i : Nat} (h : i < 2147483648) : (Int32.ofNat i).toInt = i := Int32.toInt_ofNat_small h
theorem own_ix {i : Nat} (h : i < 2147483648) : own_At (Int32.ofNat i) i := by
  have e := own_toI h
  refine ⟨?_, ?_⟩
  · rw [Int32.lt_iff_toInt_lt, e, show (0 : Int32).toInt = 0 from by decide]; omega
  · simp only [Int32.toNatClampNeg, e]; omega
theorem own_oflt {i n : Nat} (hi : i < 2147483648) (hn : n < 2147483648) : Int32.ofNat i < Int32.ofNat n ↔ i < n := by
  rw [Int32.lt_iff_toInt_lt, own_toI hi, own_toI hn]; omega
theorem own_ofeq {i n : Nat} (hi : i < 2147483648) (hn : n < 2147483648) : Int32.ofNat i = Int32.ofNat n ↔ i = n := by
  rw [← Int32.toInt_inj, own_toI hi, own_toI hn]; omega
def own_fl (F : Nat → Int32) (i : Nat) (g : Nat → Value) (j : Nat) : Value := if j < i then .int (F j) else g j
theorem own_fl_up (F : Nat → Int32) (i : Nat) (g : Nat → Value) : ∀ j, own_upd (own_fl F i g) i (.int (F i)) j = own_fl F (i + 1) g j := fun j => by
  unfold own_fl
  by_cases q : j = i
  · subst q; rw [own_upd_hit rfl, if_pos (by omega)]
  · rw [own_upd_miss q]
    by_cases q2 : j < i
    · rw [if_pos q2, if_pos (by omega)]
    · rw [if_neg q2, if_neg (by omega)]
theorem own_fl0 (F : Nat → Int32) (g : Nat → Value) : ∀ j, g j = own_fl F 0 g j := fun j => by unfold own_fl; rw [if_neg (by omega)]
theorem own_fl_in {F : Nat → Int32} {i j : Nat} {g : Nat → Value} (h : j < i) : own_fl F i g j = .int (F j) := if_pos h
theorem own_fl_out {F : Nat → Int32} {i j : Nat} {g : Nat → Value} (h : ¬ j < i) : own_fl F i g j = g j := if_neg h

/-! single steps over own_Go -/
theorem own_s_iadd {p : Program} {e : Env} {below : List Frame} {T : State} {m : MethodId} {c : Code} {Φ : Outcome → State → Prop} {pc : Nat} {L : Array Slot} {S : List Value} (h : At T m c below) (hx : p.tables.exec = Jvm.exec) {x y : Int32} (hd : decode c.code pc = .ok (.iadd, 1)) (G : own_Go p e below T (mkF m (pc + 1) L (.int (x + y) :: S)) Φ) : own_Go p e below T (mkF m pc L (.int y :: .int x :: S)) Φ := own_by (fun t k => XS.iadd h hx rfl hd rfl k) G
theorem own_s_isub {p : Program} {e : Env} {below : List Frame} {T : State} {m : MethodId} {c : Code} {Φ : Outcome → State → Prop} {pc : Nat} {L : Array Slot} {S : List Value} (h : At T m c below) (hx : p.tables.exec = Jvm.exec) {x y : Int32} (hd : decode c.code pc = .ok (.isub, 1)) (G : own_Go p e below T (mkF m (pc + 1) L (.int (x - y) :: S)) Φ) : own_Go p e below T (mkF m pc L (.int y :: .int x :: S)) Φ := own_by (fun t k => XS.isub h hx rfl hd rfl k) G
theorem own_s_imul {p : Program} {e : Env} {below : List Frame} {T : State} {m : MethodId} {c : Code} {Φ : Outcome → State → Prop} {pc : Nat} {L : Array Slot} {S : List Value} (h : At T m c below) (hx : p.tables.exec = Jvm.exec) {x y : Int32} (hd : decode c.code pc = .ok (.imul, 1)) (G : own_Go p e below T (mkF m (pc + 1) L (.int (x * y) :: S)) Φ) : own_Go p e below T (mkF m pc L (.int y :: .int x :: S)) Φ := own_by (fun t k => XS.imul h hx rfl hd rfl k) G
theorem own_s_iand {p : Program} {e : Env} {below : List Frame} {T : State} {m : MethodId} {c : Code} {Φ : Outcome → State → Prop} {pc : Nat} {L : Array Slot} {S : List Value} (h : At T m c below) (hx : p.tables.exec = Jvm.exec) {x y : Int32} (hd : decode c.code pc = .ok (.iand, 1)) (G : own_Go p e below T (mkF m (pc + 1) L (.int (x &&& y) :: S)) Φ) : own_Go p e below T (mkF m pc L (.int y :: .int x :: S)) Φ := own_by (fun t k => XS.iand h hx rfl hd rfl k) G
theorem own_s_ior {p : Program} {e : Env} {below : List Frame} {T : State} {m : MethodId} {c : Code} {Φ : Outcome → State → Prop} {pc : Nat} {L : Array Slot} {S : List Value} (h : At T m c below) (hx : p.tables.exec = Jvm.exec) {x y : Int32} (hd : decode c.code pc = .ok (.ior, 1)) (G : own_Go p e below T (mkF m (pc + 1) L (.int (x ||| y) :: S)) Φ) : own_Go p e below T (mkF m pc L (.int y :: .int x :: S)) Φ := own_by (fun t k => XS.ior h hx rfl hd rfl k) G
theorem own_s_ixor {p : Program} {e : Env} {below : List Frame} {T : State} {m : MethodId} {c : Code} {Φ : Outcome → State → Prop} {pc : Nat} {L : Array Slot} {S : List Value} (h : At T m c below) (hx : p.tables.exec = Jvm.exec) {x y : Int32} (hd : decode c.code pc = .ok (.ixor, 1)) (G : own_Go p e below T (mkF m (pc + 1) L (.int (x ^^^ y) :: S)) Φ) : own_Go p e below T (mkF m pc L (.int y :: .int x :: S)) Φ := own_by (fun t k => XS.ixor h hx rfl hd rfl k) G
theorem own_s_ladd {p : Program} {e : Env} {below : List Frame} {T : State} {m : MethodId} {c : Code} {Φ : Outcome → State → Prop} {pc : Nat} {L : Array Slot} {S : List Value} (h : At T m c below) (hx : p.tables.exec = Jvm.exec) {x y : Int64} (hd : decode c.code pc = .ok (.ladd, 1)) (G : own_Go p e below T (mkF m (pc + 1) L (.long (x + y) :: S)) Φ) : own_Go p e below T (mkF m pc L (.long y :: .long x :: S)) Φ := own_by (fun t k => XS.ladd h hx rfl hd rfl k) G
theorem own_s_lsub {p : Program} {e : Env} {below : List Frame} {T : State} {m : MethodId} {c : Code} {Φ : Outcome → State → Prop} {pc : Nat} {L : Array Slot} {S : List Value} (h : At T m c below) (hx : p.tables.exec = Jvm.exec) {x y : Int64} (hd : decode c.code pc = .ok (.lsub, 1)) (G : own_Go p e below T (mkF m (pc + 1) L (.long (x - y) :: S)) Φ) : own_Go p e below T (mkF m pc L (.long y :: .long x :: S)) Φ := own_by (fun t k => XS.lsub h hx rfl hd rfl k) G
theorem own_s_lmul {p : Program} {e : Env} {below : List Frame} {T : State} {m : MethodId} {c : Code} {Φ : Outcome → State → Prop} {pc : Nat} {L : Array Slot} {S : List Value} (h : At T m c below) (hx : p.tables.exec = Jvm.exec) {x y : Int64} (hd : decode c.code pc = .ok (.lmul, 1)) (G : own_Go p e below T (mkF m (pc + 1) L (.long (x * y) :: S)) Φ) : own_Go p e below T (mkF m pc L (.long y :: .long x :: S)) Φ := own_by (fun t k => XS.lmul h hx rfl hd rfl k) G
theorem own_s_land {p : Program} {e : Env} {below : List Frame} {T : State} {m : MethodId} {c : Code} {Φ : Outcome → State → Prop} {pc : Nat} {L : Array Slot} {S : List Value} (h : At T m c below) (hx : p.tables.exec = Jvm.exec) {x y : Int64} (hd : decode c.code pc = .ok (.land, 1)) (G : own_Go p e below T (mkF m (pc + 1) L (.long (x &&& y) :: S)) Φ) : own_Go p e below T (mkF m pc L (.long y :: .long x :: S)) Φ := own_by (fun t k => XS.land h hx rfl hd rfl k) G
theorem own_s_lor {p : Program} {e : Env} {below : List Frame} {T : State} {m : MethodId} {c : Code} {Φ : Outcome → State → Prop} {pc : Nat} {L : Array Slot} {S : List Value} (h : At T m c below) (hx : p.tables.exec = Jvm.exec) {x y : Int64} (hd : decode c.code pc = .ok (.lor, 1)) (G : own_Go p e below T (mkF m (pc + 1) L (.long (x ||| y) :: S)) Φ) : own_Go p e below T (mkF m pc L (.long y :: .long x :: S)) Φ := own_by (fun t k => XS.lor h hx rfl hd rfl k) G
theorem own_s_lxor {p : Program} {e : Env} {below : List Frame} {T : State} {m : MethodId} {c : Code} {Φ : Outcome → State → Prop} {pc : Nat} {L : Array Slot} {S : List Value} (h : At T m c below) (hx : p.tables.exec = Jvm.exec) {x y : Int64} (hd : decode c.code pc = .ok (.lxor, 1)) (G : own_Go p e below T (mkF m (pc + 1) L (.long (x ^^^ y) :: S)) Φ) : own_Go p e below T (mkF m pc L (.long y :: .long x :: S)) Φ := own_by (fun t k => XS.lxor h hx rfl hd rfl k) G
theorem own_s_ishl {p : Program} {e : Env} {below : List Frame} {T : State} {m : MethodId} {c : Code} {Φ : Outcome → State → Prop} {pc : Nat} {L : Array Slot} {S : List Value} (h : At T m c below) (hx : p.tables.exec = Jvm.exec) {x y : Int32} (hd : decode c.code pc = .ok (.ishl, 1)) (G : own_Go p e below T (mkF m (pc + 1) L (.int (x <<< (y &&& 31)) :: S)) Φ) : own_Go p e below T (mkF m pc L (.int y :: .int x :: S)) Φ := own_by (fun t k => XS.ishl h hx rfl hd rfl k) G
theorem own_s_ishr {p : Program} {e : Env} {below : List Frame} {T : State} {m : MethodId} {c : Code} {Φ : Outcome → State → Prop} {pc : Nat} {L : Array Slot} {S : List Value} (h : At T m c below) (hx : p.tables.exec = Jvm.exec) {x y : Int32} (hd : decode c.code pc = .ok (.ishr, 1)) (G : own_Go p e below T (mkF m (pc + 1) L (.int (x >>> (y &&& 31)) :: S)) Φ) : own_Go p e below T (mkF m pc L (.int y :: .int x :: S)) Φ := own_by (fun t k => XS.ishr h hx rfl hd rfl k) G
theorem own_s_iushr {p : Program} {e : Env} {below : List Frame} {T : State} {m : MethodId} {c : Code} {Φ : Outcome → State → Prop} {pc : Nat} {L : Array Slot} {S : List Value} (h : At T m c below) (hx : p.tables.exec = Jvm.exec) {x y : Int32} (hd : decode c.code pc = .ok (.iushr, 1)) (G : own_Go p e below T (mkF m (pc + 1) L (.int ((x.toUInt32 >>> (y &&& 31).toUInt32).toInt32) :: S)) Φ) : own_Go p e below T (mkF m pc L (.int y :: .int x :: S)) Φ := own_by (fun t k => XS.iushr h hx rfl hd rfl k) G
theorem own_s_lshl {p : Program} {e : Env} {below : List Frame} {T : State} {m : MethodId} {c : Code} {Φ : Outcome → State → Prop} {pc : Nat} {L : Array Slot} {S : List Value} (h : At T m c below) (hx : p.tables.exec = Jvm.exec) {x : Int64} {y : Int32} (hd : decode c.code pc = .ok (.lshl, 1)) (G : own_Go p e below T (mkF m (pc + 1) L (.long (x <<< (y &&& 0x3f).toInt64) :: S)) Φ) : own_Go p e below T (mkF m pc L (.int y :: .long x :: S)) Φ := own_by (fun t k => XS.lshl h hx rfl hd rfl k) G
theorem own_s_lshr {p : Program} {e : Env} {below : List Frame} {T : State} {m : MethodId} {c : Code} {Φ : Outcome → State → Prop} {pc : Nat} {L : Array Slot} {S : List Value} (h : At T m c below) (hx : p.tables.exec = Jvm.exec) {x : Int64} {y : Int32} (hd : decode c.code pc = .ok (.lshr, 1)) (G : own_Go p e below T (mkF m (pc + 1) L (.long (x >>> (y &&& 0x3f).toInt64) :: S)) Φ) : own_Go p e below T (mkF m pc L (.int y :: .long x :: S)) Φ := own_by (fun t k => XS.lshr h hx rfl hd rfl k) G
theorem own_s_lushr {p : Program} {e : Env} {below : List Frame} {T : State} {m : MethodId} {c : Code} {Φ : Outcome → State → Prop} {pc : Nat} {L : Array Slot} {S : List Value} (h : At T m c below) (hx : p.tables.exec = Jvm.exec) {x : Int64} {y : Int32} (hd : decode c.code pc = .ok (.lushr, 1)) (G : own_Go p e below T (mkF m (pc + 1) L (.long ((x.toUInt64 >>> (y &&& 0x3f).toInt64.toUInt64).toInt64) :: S)) Φ) : own_Go p e below T (mkF m pc L (.int y :: .long x :: S)) Φ := own_by (fun t k => XS.lushr h hx rfl hd rfl k) G
theorem own_s_ineg {p : Program} {e : Env} {below : List Frame} {T : State} {m : MethodId} {c : Code} {Φ : Outcome → State → Prop} {pc : Nat} {L : Array Slot} {S : List Value} (h : At T m c below) (hx : p.tables.exec = Jvm.exec) {x : Int32} (hd : decode c.code pc = .ok (.ineg, 1)) (G : own_Go p e below T (mkF m (pc + 1) L (.int (-x) :: S)) Φ) : own_Go p e below T (mkF m pc L (.int x :: S)) Φ := own_by (fun t k => XS.ineg h hx rfl hd rfl k) G
theorem own_s_lneg {p : Program} {e : Env} {below : List Frame} {T : State} {m : MethodId} {c : Code} {Φ : Outcome → State → Prop} {pc : Nat} {L : Array Slot} {S : List Value} (h : At T m c below) (hx : p.tables.exec = Jvm.exec) {x : Int64} (hd : decode c.code pc = .ok (.lneg, 1)) (G : own_Go p e below T (mkF m (pc + 1) L (.long (-x) :: S)) Φ) : own_Go p e below T (mkF m pc L (.long x :: S)) Φ := own_by (fun t k => XS.lneg h hx rfl hd rfl k) G
theorem own_s_i2l {p : Program} {e : Env} {below : List Frame} {T : State} {m : MethodId} {c : Code} {Φ : Outcome → State → Prop} {pc : Nat} {L : Array Slot} {S : List Value} (h : At T m c below) (hx : p.tables.exec = Jvm.exec) {x : Int32} (hd : decode c.code pc = .ok (.i2l, 1)) (G : own_Go p e below T (mkF m (pc + 1) L (.long (x.toInt64) :: S)) Φ) : own_Go p e below T (mkF m pc L (.int x :: S)) Φ := own_by (fun t k => XS.i2l h hx rfl hd rfl k) G
theorem own_s_l2i {p : Program} {e : Env} {below : List Frame} {T : State} {m : MethodId} {c : Code} {Φ : Outcome → State → Prop} {pc : Nat} {L : Array Slot} {S : List Value} (h : At T m c below) (hx : p.tables.exec = Jvm.exec) {x : Int64} (hd : decode c.code pc = .ok (.l2i, 1)) (G : own_Go p e below T (mkF m (pc + 1) L (.int (x.toInt32) :: S)) Φ) : own_Go p e below T (mkF m pc L (.long x :: S)) Φ := own_by (fun t k => XS.l2i h hx rfl hd rfl k) G
theorem own_s_i2b {p : Program} {e : Env} {below : List Frame} {T : State} {m : MethodId} {c : Code} {Φ : Outcome → State → Prop} {pc : Nat} {L : Array Slot} {S : List Value} (h : At T m c below) (hx : p.tables.exec = Jvm.exec) {x : Int32} (hd : decode c.code pc = .ok (.i2b, 1)) (G : own_Go p e below T (mkF m (pc + 1) L (.int (x.toInt8.toInt32) :: S)) Φ) : own_Go p e below T (mkF m pc L (.int x :: S)) Φ := own_by (fun t k => XS.i2b h hx rfl hd rfl k) G
theorem own_s_i2s {p : Program} {e : Env} {below : List Frame} {T : State} {m : MethodId} {c : Code} {Φ : Outcome → State → Prop} {pc : Nat} {L : Array Slot} {S : List Value} (h : At T m c below) (hx : p.tables.exec = Jvm.exec) {x : Int32} (hd : decode c.code pc = .ok (.i2s, 1)) (G : own_Go p e below T (mkF m (pc + 1) L (.int (x.toInt16.toInt32) :: S)) Φ) : own_Go p e below T (mkF m pc L (.int x :: S)) Φ := own_by (fun t k => XS.i2s h hx rfl hd rfl k) G
theorem own_s_i2c {p : Program} {e : Env} {below : List Frame} {T : State} {m : MethodId} {c : Code} {Φ : Outcome → State → Prop} {pc : Nat} {L : Array Slot} {S : List Value} (h : At T m c below) (hx : p.tables.exec = Jvm.exec) {x : Int32} (hd : decode c.code pc = .ok (.i2c, 1)) (G : own_Go p e below T (mkF m (pc + 1) L (.int (x.toUInt32.toUInt16.toUInt32.toInt32) :: S)) Φ) : own_Go p e below T (mkF m pc L (.int x :: S)) Φ := own_by (fun t k => XS.i2c h hx rfl hd rfl k) G
theorem own_s_iloadN {p : Program} {e : Env} {below : List Frame} {T : State} {m : MethodId} {c : Code} {Φ : Outcome → State → Prop} {pc : Nat} {L : Array Slot} {S : List Value} (h : At T m c below) (hx : p.tables.exec = Jvm.exec) {i : Fin 4} {v : Int32} (hd : decode c.code pc = .ok (.iload_n i, 1)) (hl : L[i.val]? = some (.val (.int v))) (G : own_Go p e below T (mkF m (pc + 1) L (.int v :: S)) Φ) : own_Go p e below T (mkF m pc L S) Φ := own_by (fun t k => XS.iloadN h hx rfl hd hl k) G
theorem own_s_iload {p : Program} {e : Env} {below : List Frame} {T : State} {m : MethodId} {c : Code} {Φ : Outcome → State → Prop} {pc : Nat} {L : Array Slot} {S : List Value} (h : At T m c below) (hx : p.tables.exec = Jvm.exec) {i : Nat} {v : Int32} (hd : decode c.code pc = .ok (.iload i, 2)) (hl : L[i]? = some (.val (.int v))) (G : own_Go p e below T (mkF m (pc + 2) L (.int v :: S)) Φ) : own_Go p e below T (mkF m pc L S) Φ := own_by (fun t k => XS.iload h hx rfl hd hl k) G
theorem own_s_lloadN {p : Program} {e : Env} {below : List Frame} {T : State} {m : MethodId} {c : Code} {Φ : Outcome → State → Prop} {pc : Nat} {L : Array Slot} {S : List Value} (h : At T m c below) (hx : p.tables.exec = Jvm.exec) {i : Fin 4} {v : Int64} (hd : decode c.code pc = .ok (.lload_n i, 1)) (hl : L[i.val]? = some (.val (.long v))) (G : own_Go p e below T (mkF m (pc + 1) L (.long v :: S)) Φ) : own_Go p e below T (mkF m pc L S) Φ := own_by (fun t k => XS.lloadN h hx rfl hd hl k) G
theorem own_s_lload {p : Program} {e : Env} {below : List Frame} {T : State} {m : MethodId} {c : Code} {Φ : Outcome → State → Prop} {pc : Nat} {L : Array Slot} {S : List Value} (h : At T m c below) (hx : p.tables.exec = Jvm.exec) {i : Nat} {v : Int64} (hd : decode c.code pc = .ok (.lload i, 2)) (hl : L[i]? = some (.val (.long v))) (G : own_Go p e below T (mkF m (pc + 2) L (.long v :: S)) Φ) : own_Go p e below T (mkF m pc L S) Φ := own_by (fun t k => XS.lload h hx rfl hd hl k) G
theorem own_s_aloadN {p : Program} {e : Env} {below : List Frame} {T : State} {m : MethodId} {c : Code} {Φ : Outcome → State → Prop} {pc : Nat} {L : Array Slot} {S : List Value} (h : At T m c below) (hx : p.tables.exec = Jvm.exec) {i : Fin 4} {v : Value} (hd : decode c.code pc = .ok (.aload_n i, 1)) (hl : L[i.val]? = some (.val v)) (hv : v.isRef = true) (G : own_Go p e below T (mkF m (pc + 1) L (v :: S)) Φ) : own_Go p e below T (mkF m pc L S) Φ := own_by (fun t k => XS.aloadN h hx rfl hd hl hv k) G
theorem own_s_aload {p : Program} {e : Env} {below : List Frame} {T : State} {m : MethodId} {c : Code} {Φ : Outcome → State → Prop} {pc : Nat} {L : Array Slot} {S : List Value} (h : At T m c below) (hx : p.tables.exec = Jvm.exec) {i : Nat} {v : Value} (hd : decode c.code pc = .ok (.aload i, 2)) (hl : L[i]? = some (.val v)) (hv : v.isRef = true) (G : own_Go p e below T (mkF m (pc + 2) L (v :: S)) Φ) : own_Go p e below T (mkF m pc L S) Φ := own_by (fun t k => XS.aload h hx rfl hd hl hv k) G
theorem own_s_istoreN {p : Program} {e : Env} {below : List Frame} {T : State} {m : MethodId} {c : Code} {Φ : Outcome → State → Prop} {pc : Nat} {L : Array Slot} {S : List Value} (h : At T m c below) (hx : p.tables.exec = Jvm.exec) {i : Fin 4} {v : Int32} (L' : Array Slot) (hd : decode c.code pc = .ok (.istore_n i, 1)) (hl : storeLocals L i.val (.int v) = some L') (G : own_Go p e below T (mkF m (pc + 1) L' S) Φ) : own_Go p e below T (mkF m pc L (.int v :: S)) Φ := own_by (fun t k => XS.istoreN h hx rfl hd rfl hl k) G
theorem own_s_istore {p : Program} {e : Env} {below : List Frame} {T : State} {m : MethodId} {c : Code} {Φ : Outcome → State → Prop} {pc : Nat} {L : Array Slot} {S : List Value} (h : At T m c below) (hx : p.tables.exec = Jvm.exec) {i : Nat} {v : Int32} (L' : Array Slot) (hd : decode c.code pc = .ok (.istore i, 2)) (hl : storeLocals L i (.int v) = some L') (G : own_Go p e below T (mkF m (pc + 2) L' S) Φ) : own_Go p e below T (mkF m pc L (.int v :: S)) Φ := own_by (fun t k => XS.istore h hx rfl hd rfl hl k) G
theorem own_s_lstoreN {p : Program} {e : Env} {below : List Frame} {T : State} {m : MethodId} {c : Code} {Φ : Outcome → State → Prop} {pc : Nat} {L : Array Slot} {S : List Value} (h : At T m c below) (hx : p.tables.exec = Jvm.exec) {i : Fin 4} {v : Int64} (L' : Array Slot) (hd : decode c.code pc = .ok (.lstore_n i, 1)) (hl : storeLocals L i.val (.long v) = some L') (G : own_Go p e below T (mkF m (pc + 1) L' S) Φ) : own_Go p e below T (mkF m pc L (.long v :: S)) Φ := own_by (fun t k => XS.lstoreN h hx rfl hd rfl hl k) G
theorem own_s_lstore {p : Program} {e : Env} {below : List Frame} {T : State} {m : MethodId} {c : Code} {Φ : Outcome → State → Prop} {pc : Nat} {L : Array Slot} {S : List Value} (h : At T m c below) (hx : p.tables.exec = Jvm.exec) {i : Nat} {v : Int64} (L' : Array Slot) (hd : decode c.code pc = .ok (.lstore i, 2)) (hl : storeLocals L i (.long v) = some L') (G : own_Go p e below T (mkF m (pc + 2) L' S) Φ) : own_Go p e below T (mkF m pc L (.long v :: S)) Φ := own_by (fun t k => XS.lstore h hx rfl hd rfl hl k) G
theorem own_s_astoreN {p : Program} {e : Env} {below : List Frame} {T : State} {m : MethodId} {c : Code} {Φ : Outcome → State → Prop} {pc : Nat} {L : Array Slot} {S : List Value} (h : At T m c below) (hx : p.tables.exec = Jvm.exec) {i : Fin 4} {v : Value} (L' : Array Slot) (hd : decode c.code pc = .ok (.astore_n i, 1)) (hv : v.isRef = true) (hl : storeLocals L i.val v = some L') (G : own_Go p e below T (mkF m (pc + 1) L' S) Φ) : own_Go p e below T (mkF m pc L (v :: S)) Φ := own_by (fun t k => XS.astoreN h hx rfl hd rfl hv hl k) G
theorem own_s_astore {p : Program} {e : Env} {below : List Frame} {T : State} {m : MethodId} {c : Code} {Φ : Outcome → State → Prop} {pc : Nat} {L : Array Slot} {S : List Value} (h : At T m c below) (hx : p.tables.exec = Jvm.exec) {i : Nat} {v : Value} (L' : Array Slot) (hd : decode c.code pc = .ok (.astore i, 2)) (hv : v.isRef = true) (hl : storeLocals L i v = some L') (G : own_Go p e below T (mkF m (pc + 2) L' S) Φ) : own_Go p e below T (mkF m pc L (v :: S)) Φ := own_by (fun t k => XS.astore h hx rfl hd rfl hv hl k) G
theorem own_s_iconst {p : Program} {e : Env} {below : List Frame} {T : State} {m : MethodId} {c : Code} {Φ : Outcome → State → Prop} {pc : Nat} {L : Array Slot} {S : List Value} (h : At T m c below) (hx : p.tables.exec = Jvm.exec) {i : Int} (v : Int32) (hd : decode c.code pc = .ok (.iconst i, 1)) (hv : Int32.ofInt i = v) (G : own_Go p e below T (mkF m (pc + 1) L (.int v :: S)) Φ) : own_Go p e below T (mkF m pc L S) Φ := own_by (fun t k => XS.iconst h hx rfl hd (by rw [hv]; exact k)) G
theorem own_s_bipush {p : Program} {e : Env} {below : List Frame} {T : State} {m : MethodId} {c : Code} {Φ : Outcome → State → Prop} {pc : Nat} {L : Array Slot} {S : List Value} (h : At T m c below) (hx : p.tables.exec = Jvm.exec) {i : Int} (v : Int32) (hd : decode c.code pc = .ok (.bipush i, 2)) (hv : (Int8.ofInt i).toInt32 = v) (G : own_Go p e below T (mkF m (pc + 2) L (.int v :: S)) Φ) : own_Go p e below T (mkF m pc L S) Φ := own_by (fun t k => XS.bipush h hx rfl hd (by rw [hv]; exact k)) G
theorem own_s_sipush {p : Program} {e : Env} {below : List Frame} {T : State} {m : MethodId} {c : Code} {Φ : Outcome → State → Prop} {pc : Nat} {L : Array Slot} {S : List Value} (h : At T m c below) (hx : p.tables.exec = Jvm.exec) {i : Int} (v : Int32) (hd : decode c.code pc = .ok (.sipush i, 3)) (hv : (Int16.ofInt i).toInt32 = v) (G : own_Go p e below T (mkF m (pc + 3) L (.int v :: S)) Φ) : own_Go p e below T (mkF m pc L S) Φ := own_by (fun t k => XS.sipush h hx rfl hd (by rw [hv]; exact k)) G
theorem own_s_lconst {p : Program} {e : Env} {below : List Frame} {T : State} {m : MethodId} {c : Code} {Φ : Outcome → State → Prop} {pc : Nat} {L : Array Slot} {S : List Value} (h : At T m c below) (hx : p.tables.exec = Jvm.exec) {i : Fin 2} (v : Int64) (hd : decode c.code pc = .ok (.lconst i, 1)) (hv : Int64.ofNat i = v) (G : own_Go p e below T (mkF m (pc + 1) L (.long v :: S)) Φ) : own_Go p e below T (mkF m pc L S) Φ := own_by (fun t k => XS.lconst h hx rfl hd (by rw [hv]; exact k)) G
theorem own_s_goto {p : Program} {e : Env} {below : List Frame} {T : State} {m : MethodId} {c : Code} {Φ : Outcome → State → Prop} {pc : Nat} {L : Array Slot} {S : List Value} (h : At T m c below) (hx : p.tables.exec = Jvm.exec) {o : Int} (pc' : Nat) (hd : decode c.code pc = .ok (.goto o, 3)) (ho : 0 ≤ (pc : Int) + o) (hp : ((pc : Int) + o).toNat = pc') (G : own_Go p e below T (mkF m pc' L S) Φ) : own_Go p e below T (mkF m pc L S) Φ := own_by (fun t k => XS.goto h hx rfl rfl hd ho hp k) G
theorem own_s_ifYes {p : Program} {e : Env} {below : List Frame} {T : State} {m : MethodId} {c : Code} {Φ : Outcome → State → Prop} {pc : Nat} {L : Array Slot} {S : List Value} (h : At T m c below) (hx : p.tables.exec = Jvm.exec) {cd : ClassFile.Cond} {x : Int32} {o : Int} (pc' : Nat) (hd : decode c.code pc = .ok (.ifCond cd o, 3)) (hc : ifCond.holds cd x = true) (ho : 0 ≤ (pc : Int) + o) (hp : ((pc : Int) + o).toNat = pc') (G : own_Go p e below T (mkF m pc' L S) Φ) : own_Go p e below T (mkF m pc L (.int x :: S)) Φ := own_by (fun t k => XS.ifYes h hx rfl rfl hd rfl hc ho hp k) G
theorem own_s_ifNo {p : Program} {e : Env} {below : List Frame} {T : State} {m : MethodId} {c : Code} {Φ : Outcome → State → Prop} {pc : Nat} {L : Array Slot} {S : List Value} (h : At T m c below) (hx : p.tables.exec = Jvm.exec) {cd : ClassFile.Cond} {x : Int32} {o : Int} (hd : decode c.code pc = .ok (.ifCond cd o, 3)) (hc : ifCond.holds cd x = false) (G : own_Go p e below T (mkF m (pc + 3) L S) Φ) : own_Go p e below T (mkF m pc L (.int x :: S)) Φ := own_by (fun t k => XS.ifNo h hx rfl hd rfl hc k) G
theorem own_s_icmpYes {p : Program} {e : Env} {below : List Frame} {T : State} {m : MethodId} {c : Code} {Φ : Outcome → State → Prop} {pc : Nat} {L : Array Slot} {S : List Value} (h : At T m c below) (hx : p.tables.exec = Jvm.exec) {cd : ClassFile.Cond} {x y : Int32} {o : Int} (pc' : Nat) (hd : decode c.code pc = .ok (.if_icmp cd o, 3)) (hc : if_icmp.holds cd x y = true) (ho : 0 ≤ (pc : Int) + o) (hp : ((pc : Int) + o).toNat = pc') (G : own_Go p e below T (mkF m pc' L S) Φ) : own_Go p e below T (mkF m pc L (.int y :: .int x :: S)) Φ := own_by (fun t k => XS.icmpYes h hx rfl rfl hd rfl hc ho hp k) G
theorem own_s_icmpNo {p : Program} {e : Env} {below : List Frame} {T : State} {m : MethodId} {c : Code} {Φ : Outcome → State → Prop} {pc : Nat} {L : Array Slot} {S : List Value} (h : At T m c below) (hx : p.tables.exec = Jvm.exec) {cd : ClassFile.Cond} {x y : Int32} {o : Int} (hd : decode c.code pc = .ok (.if_icmp cd o, 3)) (hc : if_icmp.holds cd x y = false) (G : own_Go p e below T (mkF m (pc + 3) L S) Φ) : own_Go p e below T (mkF m pc L (.int y :: .int x :: S)) Φ := own_by (fun t k => XS.icmpNo h hx rfl hd rfl hc k) G
theorem own_s_lcmp {p : Program} {e : Env} {below : List Frame} {T : State} {m : MethodId} {c : Code} {Φ : Outcome → State → Prop} {pc : Nat} {L : Array Slot} {S : List Value} (h : At T m c below) (hx : p.tables.exec = Jvm.exec) {x y : Int64} (hd : decode c.code pc = .ok (.lcmp, 1)) (G : own_Go p e below T (mkF m (pc + 1) L (.int (Jvm.Free.XT.cmpL x y) :: S)) Φ) : own_Go p e below T (mkF m pc L (.long y :: .long x :: S)) Φ := own_by (fun t k => Jvm.Free.XT.lcmp h hx rfl hd rfl k) G
theorem own_s_dup {p : Program} {e : Env} {below : List Frame} {T : State} {m : MethodId} {c : Code} {Φ : Outcome → State → Prop} {pc : Nat} {L : Array Slot} {S : List Value} (h : At T m c below) (hx : p.tables.exec = Jvm.exec) {x : Value} (hd : decode c.code pc = .ok (.dup, 1)) (hc : x.category = 1) (G : own_Go p e below T (mkF m (pc + 1) L (x :: x :: S)) Φ) : own_Go p e below T (mkF m pc L (x :: S)) Φ := own_by (fun t k => XS.dup h hx rfl hd rfl hc k) G
theorem own_s_pop {p : Program} {e : Env} {below : List Frame} {T : State} {m : MethodId} {c : Code} {Φ : Outcome → State → Prop} {pc : Nat} {L : Array Slot} {S : List Value} (h : At T m c below) (hx : p.tables.exec = Jvm.exec) {x : Value} (hd : decode c.code pc = .ok (.pop, 1)) (hc : x.category = 1) (G : own_Go p e below T (mkF m (pc + 1) L S) Φ) : own_Go p e below T (mkF m pc L (x :: S)) Φ := own_by (fun t k => XS.pop h hx rfl hd rfl hc k) G

theorem own_Av.toV {Z : State} {h : Heap} {a : Addr} {n : Nat} {f : Nat → Int64} (F : own_Av Z h a .long n (fun i => .long (f i))) (hn : n < 2147483648) : ∃ k, Arv Z h a k .long (Int32.ofNat n) ((List.range n).map fun i => .long (f i)) (.long 0) := by
  obtain ⟨c, A, S, H⟩ := F
  have q : ∀ i, i < n → ((List.range n).map fun i => (Value.long (f i))).getD i (.long 0) = .long (f i) := fun i hi => by simp [List.getD_eq_getElem?_getD, hi]
  refine ⟨c.cls, c, A, rfl, by rw [S]; exact (own_ix hn).2.symm, (own_ix hn).1, fun i hi => ?_, fun i hi => ?_⟩
  · rw [S] at hi; rw [q i hi]; exact H i hi
  · rw [S] at hi; rw [q i hi]; rfl
theorem own_Av.ofV {Z : State} {h : Heap} {a : Addr} {n : Nat} {k : ClassId} {vs : List Value} {d : Value} (F : Arv Z h a k .long (Int32.ofNat n) vs d) (hn : n < 2147483648) : own_Av Z h a .long n (fun i => vs.getD i d) := by
  obtain ⟨c, A, -, S, -, H, -⟩ := F
  rw [(own_ix hn).2] at S
  exact ⟨c, A, S, fun i hi => H i (by rw [S]; exact hi)⟩
theorem own_cpJ {p : Program} {l : Launch} {e : Env} {R : Room} {s : State} {m : MethodId} {args : Array Value} {below : List Frame} {meth : Method} {c : Code} {T : State} {locs : List Loc} {cells slots : Nat} {Z : State} {h : Heap} {a b : Addr}
    (X : Stand p l e R s m args below meth c T locs cells slots) (hx : p.tables.exec = Jvm.exec) (hZ : Z.Warmed39 s.vm) {a0 : Array Value} {own : String} {index : Nat} (hown : s.vm.findClass own = some m.cls)
    (w1 : (Cond.methodLink own index Jvm.Stand.acN).before a0 Z = true) (w2 : (Cond.native Jvm.Stand.acN).before a0 Z = true) (w3 : (Cond.static Jvm.Stand.acN).before a0 Z = true) (w4 : (Cond.initialized "java/lang/System").before a0 Z = true) (eT : T.heap = h)
    {n kk : Nat} {fi : Nat → Int64} (A : own_Av Z h a .long n (fun i => .long (fi i))) (B : own_Av Z h b .long kk (fun _ => .long (0 : Int64))) (hk : kk ≤ n) (hn : n < 2147483648) {n0 : Nat} (N : Fr n0 locs) (ge : n0 ≤ b)
    {g : JFrame} (hg : g.method = m) (hsize : g.locals.size = c.maxLocals) {rest : List Value} (hs : g.stack = .int (Int32.ofNat kk) :: .int (0 : Int32) :: .ref b :: .int (0 : Int32) :: .ref a :: rest) (hd : decode c.code g.pc = .ok (.invokestatic index, 3))
    (hf : 1 ≤ R.frames) {W : Nat} (hW : 2 * g.monitorRoom + (rest.map fun v => v.category).sum ≤ W) (hlo : W + (nativeFrameWords "java/lang/System" "arraycopy" 5 + 11) ≤ R.locals) :
    ∃ T' h' L f', Stand p l e R s m args below meth c T' L cells slots ∧ T'.heap = h' ∧ Fr n0 L ∧ Keep h h' [b] ∧ own_Av Z h' b .long kk f' ∧
      ∀ target, Steps p.tables e below (T'.setTop { g with pc := g.pc + 3, stack := rest }) target → Steps p.tables e below (T.setTop g) target := by
  have hkk : kk < 2147483648 := by omega
  obtain ⟨k1, A'⟩ := A.toV hn
  obtain ⟨k2, B'⟩ := B.toV (f := fun _ => 0) hkk
  have e0 : (0 : Int32).toNatClampNeg = 0 := by decide
  obtain ⟨T', h', L, X', e', N', K', F', st⟩ := cpA X hx hZ hown w1 w2 w3 w4 eT A' B' (Or.inl ⟨rfl, rfl⟩) (by decide) (by decide) (own_ix hkk).1 (by rw [e0, (own_ix hkk).2, (own_ix hn).2]; omega) (by rw [e0, (own_ix hkk).2]; omega) rfl (by rw [e0, (own_ix hkk).2]; simp) N ge hg hsize hs hd hf hW hlo
  exact ⟨T', h', L, _, X', e', N', K', own_Av.ofV F' hkk, st⟩
def own_FinW (s : State) (Q : Option Value → Heap → List Loc → Prop) (k j : Nat) (o : Outcome) (U' : State) : Prop :=
  ∃ v L, o = .returned v ∧ Q v U'.heap L ∧ ReturnedEndW s o U' L k j
theorem own_toW {p : Program} {e : Env} {below : List Frame} {s T : State} {g : JFrame} {Q : Option Value → Heap → List Loc → Prop} {k j : Nat} {vm1 : Vm} {k1 : Nat} (hS : s.Since vm1 k1)
    (G : own_Go p e below T g (own_Fin (s.setVm vm1) (fun v h L => Q v h L ∧ k1 ≤ h.size) k j)) : own_Go p e below T g (own_FinW s Q k j) := by
  obtain ⟨s₂, o, h1, h2, h3, v, L, h4, ⟨h5, h6⟩, h7⟩ := G
  obtain ⟨q1, q2, q3⟩ := h7
  obtain ⟨r1, r2, r3⟩ := hS.ended (U := s₂) q2 h6 q3
  exact ⟨s₂, o, h1, h2, h3, v, L, h4, h5, q1, r1, r2, r3⟩
theorem own_startW {p : Program} {e : Env} {below : List Frame} {s T : State} {g g' : JFrame} {Q : Option Value → Heap → List Loc → Prop} {k j : Nat} (hg : g = g')
    (h : own_Go p e below T g' (own_FinW s Q k j)) : ∃ s₂ o, Steps p.tables e below (T.setTop g) s₂ ∧ s₂.status = .running ∧ Ended s₂ below o ∧ ∃ v L, o = .returned v ∧ Q v s₂.heap L ∧ ReturnedEndW s o s₂ L k j := by
  subst hg
  exact h

def own_FinV (s : State) (Q : Option Value → Heap → Vm → List Loc → Prop) (k j : Nat) (o : Outcome) (U' : State) : Prop :=
  ∃ v L, o = .returned v ∧ Q v U'.heap U'.vm L ∧ ReturnedEndW s o U' L k j
theorem own_toV {p : Program} {e : Env} {below : List Frame} {s T : State} {g : JFrame} {Q' : Option Value → Heap → List Loc → Prop} {Q : Option Value → Heap → Vm → List Loc → Prop} {k j : Nat} {vm1 : Vm} {k1 : Nat} (hS : s.Since vm1 k1)
    (imp : ∀ v h L vm', (s.setVm vm1).WarmedH vm' → Q' v h L → k1 ≤ h.size ∧ Q v h vm' L) (G : own_Go p e below T g (own_Fin (s.setVm vm1) Q' k j)) : own_Go p e below T g (own_FinV s Q k j) := by
  obtain ⟨s₂, o, h1, h2, h3, v, L, h4, h5, h7⟩ := G
  obtain ⟨q1, q2, q3⟩ := h7
  obtain ⟨h6, h8⟩ := imp _ _ _ _ q2 h5
  obtain ⟨r1, r2, r3⟩ := hS.ended (U := s₂) q2 h6 q3
  exact ⟨s₂, o, h1, h2, h3, v, L, h4, h8, q1, r1, r2, r3⟩
theorem own_startV {p : Program} {e : Env} {below : List Frame} {s T : State} {g g' : JFrame} {Q : Option Value → Heap → Vm → List Loc → Prop} {k j : Nat} (hg : g = g')
    (h : own_Go p e below T g' (own_FinV s Q k j)) : ∃ s₂ o, Steps p.tables e below (T.setTop g) s₂ ∧ s₂.status = .running ∧ Ended s₂ below o ∧ ∃ v L, o = .returned v ∧ Q v s₂.heap s₂.vm L ∧ ReturnedEndW s o s₂ L k j := by
  subst hg
  exact h
section OwnBack
variable {p : Program} {l : Launch} {e : Env} {R : Room} {s : State} {args : Array Value} {below : List Frame} {Z : State} {a0 : Array Value} {h : Heap}
theorem own_backL {y : MethodName} {bytes : ByteArray} {maxL : Nat} {ret : Option FieldType} {rm : Room} {len W : Nat} {as' : Array Value} {Q : Option Value → Heap → List Loc → Prop} {PV : Vm → Prop} (hPV : ∀ vm', s.WarmedH vm' → PV vm')
    (hM : MetFree l y (head1 [Cond.code y bytes maxL ret] rm) (fun a U => a = as' ∧ Z.Warmed39 U.vm ∧ U.heap = h ∧ PV U.vm) (fun _ _ _ _ _ => True) (fun _ U o U' => ∃ v L, o = .returned v ∧ Q v U'.heap L ∧ FrameEnd U o U' L rm.cells rm.slots))
    (hZ : Z.Warmed39 s.vm) (wc : (Cond.code y bytes maxL ret).before a0 Z = true) (wz : (Cond.initialized y.cls).before a0 Z = true) (hf : rm.frames + 1 ≤ R.frames) (hl : W + (maxL + 11) + rm.locals ≤ R.locals) :
    Back l R p e below s args y len W (fun A a => a = as' ∧ A.U.heap = h ∧ A.cells + rm.cells ≤ R.cells ∧ A.slots + rm.slots ≤ R.slots)
      (fun A _ v B => ∃ L, Q v B.U.heap L ∧ B.locs = A.locs ++ L ∧ B.cells = A.cells + rm.cells ∧ B.slots = A.slots + rm.slots) :=
  Back.of_free (bytes := bytes) (maxL := maxL) (ret := ret) (E := fun _ _ o t L k n => k = rm.cells ∧ n = rm.slots ∧ ∃ v, o = .returned v ∧ Q v t.heap L) hM hf hl
    (fun m meth c A a Y hp => have hU : Z.Warmed39 A.U.vm := wtrans hZ Y.warmed
      ⟨by show (Cond.and _ .tt).before a A.U = true; rw [Cond.before_and, mv hU wc]; rfl, mv hU wc, mv hU wz, hp.2.2.1, hp.2.2.2⟩)
    (fun m meth c A a g mk Y hp => ⟨hp.1, wtrans hZ Y.warmed, hp.2.1, hPV _ Y.warmed⟩) (fun _ _ _ _ _ _ _ _ _ => trivial)
    (fun _ _ _ _ ⟨v, L, h1, h2, h3⟩ => ⟨L, _, _, h3, rfl, rfl, v, h1, h2⟩)
    (fun m meth c A a g mk v t L k n Y hp _ _ ⟨e1, e2, v', e3, e4⟩ => by cases e3; subst e1 e2; exact ⟨L, e4, rfl, rfl, rfl⟩)
theorem own_backW {y : MethodName} {bytes : ByteArray} {maxL : Nat} {ret : Option FieldType} {rm : Room} {len W : Nat} {as' : Array Value} {Q : Option Value → Heap → Vm → List Loc → Prop} {PV : Vm → Prop} (hPV : ∀ vm', s.WarmedH vm' → PV vm')
    (hM : MetFree l y (head1 [Cond.code y bytes maxL ret] rm) (fun a U => a = as' ∧ Z.Warmed39 U.vm ∧ U.heap = h ∧ PV U.vm) (fun _ _ _ _ _ => True) (fun _ U o U' => ∃ v L, o = .returned v ∧ Q v U'.heap U'.vm L ∧ ReturnedEndW U o U' L rm.cells rm.slots))
    (hZ : Z.Warmed39 s.vm) (wc : (Cond.code y bytes maxL ret).before a0 Z = true) (wz : (Cond.initialized y.cls).before a0 Z = true) (hf : rm.frames + 1 ≤ R.frames) (hl : W + (maxL + 11) + rm.locals ≤ R.locals) :
    BackS l R p e below s args y len W (fun A a => a = as' ∧ A.U.heap = h ∧ A.cells + rm.cells ≤ R.cells ∧ A.slots + rm.slots ≤ R.slots)
      (fun A _ v B => ∃ L, Q v B.U.heap B.U.vm L ∧ B.locs = A.locs ++ L ∧ B.cells = A.cells + rm.cells ∧ B.slots = A.slots + rm.slots) :=
  BackS.of_freeW (bytes := bytes) (maxL := maxL) (ret := ret) (E := fun _ _ o t L k n => k = rm.cells ∧ n = rm.slots ∧ ∃ v, o = .returned v ∧ Q v t.heap t.vm L) hM hf hl
    (fun m meth c A a Y hp => have hU : Z.Warmed39 A.U.vm := wtrans hZ Y.warmed
      ⟨by show (Cond.and _ .tt).before a A.U = true; rw [Cond.before_and, mv hU wc]; rfl, mv hU wc, mv hU wz, hp.2.2.1, hp.2.2.2⟩)
    (fun m meth c A a g mk Y hp => ⟨hp.1, wtrans hZ Y.warmed, hp.2.1, hPV _ Y.warmed⟩) (fun _ _ _ _ _ _ _ _ _ => trivial)
    (fun _ _ _ _ ⟨v, L, h1, h2, h3⟩ => ⟨L, _, _, h3, rfl, rfl, v, h1, h2⟩)
    (fun m meth c A a g mk v t L k n Y hp _ _ ⟨e1, e2, v', e3, e4⟩ => by cases e3; subst e1 e2; exact ⟨L, e4, rfl, rfl, rfl⟩)
end OwnBack
theorem own_Av.ofVg {Z : State} {h : Heap} {a : Addr} {n : Nat} {k : ClassId} {ty : FieldType} {z : Int32} {vs : List Value} {d : Value} (F : Arv Z h a k ty z vs d) (hn : z.toNatClampNeg = n) : own_Av Z h a ty n (fun i => vs.getD i d) := by
  obtain ⟨c, A, -, S, -, H, -⟩ := F
  rw [hn] at S
  exact ⟨c, A, S, fun i hi => H i (by rw [S]; exact hi)⟩
theorem own_isref {fm : Value} (h : fm.isRef = true) : fm = .null ∨ ∃ q, fm = .ref q := by
  cases fm <;> simp_all [Value.isRef]
theorem own_smono {s : State} {vm1 : Vm} {n n' : Nat} (h : s.Since vm1 n) (hn : n ≤ n') : s.Since vm1 n' := ⟨h.1, h.2.mono hn⟩
def own_lov : List Value := (List.map Value.int [48, 49, 50, 51, 52, 53, 54, 55, 56, 57, 97, 98, 99, 100, 101, 102])
def own_upv : List Value := (List.map Value.int [48, 49, 50, 51, 52, 53, 54, 55, 56, 57, 65, 66, 67, 68, 69, 70])
def own_lo (i : Nat) : Int32 := [48, 49, 50, 51, 52, 53, 54, 55, 56, 57, 97, 98, 99, 100, 101, 102].getD i 0
def own_up (i : Nat) : Int32 := [48, 49, 50, 51, 52, 53, 54, 55, 56, 57, 65, 66, 67, 68, 69, 70].getD i 0
theorem own_lot : (∀ c ∈ "0123456789abcdef".toList, c.toNat < 256) ∧ "0123456789abcdef".toList.map (fun c => Value.int (Jvm.Lit.byteI c.toNat.toUInt16)) = own_lov := by
  refine ⟨by decide +kernel, by decide +kernel⟩
theorem own_upt : (∀ c ∈ "0123456789ABCDEF".toList, c.toNat < 256) ∧ "0123456789ABCDEF".toList.map (fun c => Value.int (Jvm.Lit.byteI c.toNat.toUInt16)) = own_upv := by
  refine ⟨by decide +kernel, by decide +kernel⟩
theorem own_loF : ∀ i : Fin 16, own_lov.getD i.val (.int 0) = .int (own_lo i.val) ∧ own_upv.getD i.val (.int 0) = .int (own_up i.val) := by decide +kernel
theorem own_lof (i : Nat) (h : i < 16) : own_lov.getD i (.int 0) = .int (own_lo i) := (own_loF ⟨i, h⟩).1
theorem own_upf (i : Nat) (h : i < 16) : own_upv.getD i (.int 0) = .int (own_up i) := (own_loF ⟨i, h⟩).2
def own_ch (y : Int32) : Int32 := ((y &&& (255 : Int32)).toUInt32.toUInt16.toUInt32.toInt32)
theorem own_narC (y : Int32) : nar .char (own_ch y) = own_ch y := by
  unfold own_ch
  show (((y &&& (255 : Int32)).toUInt32.toUInt16.toUInt32.toInt32).toUInt32.toUInt16.toUInt32.toInt32) = _
  generalize (y &&& (255 : Int32)).toUInt32.toUInt16 = u
  rw [show u.toUInt32.toInt32.toUInt32.toUInt16 = u by simp]
theorem own_retC {p : Program} {l : Launch} {e : Env} {R : Room} {s : State} {m : MethodId} {args : Array Value} {below : List Frame} {meth : Method} {c : Code} {T : State} {locs : List Loc} {cells slots : Nat} {Q : Option Value → Heap → List Loc → Prop} {k j pc : Nat} {Ls : Array Slot} {rest : List Value}
    (X : Stand p l e R s m args below meth c T locs cells slots) (hx : p.tables.exec = Jvm.exec) (hret : meth.sig.returnType = some .char) (hlk : meth.locks = false) {z : Int32} (hd : decode c.code pc = .ok (.ireturn, 1))
    (hz : nar .char z = z) (hk : cells ≤ k) (hj : slots ≤ j) (q : Q (some (.int z)) T.heap locs) : own_Go p e below T (mkF m pc Ls (.int z :: rest)) (own_Fin s Q k j) := own_retN (Or.inr (Or.inr (Or.inl rfl))) X hx hret hlk hd hz hk hj q

def own_f7 (u0 : Int32) : Int32 := (if u0 < (48 : Int32) then (if u0 < (97 : Int32) then (if u0 < (65 : Int32) then (-1 : Int32) else (if (70 : Int32) < u0 then (-1 : Int32) else ((u0 - (65 : Int32)) + (10 : Int32)))) else (if (102 : Int32) < u0 then (if u0 < (65 : Int32) then (-1 : Int32) else (if (70 : Int32) < u0 then (-1 : Int32) else ((u0 - (65 : Int32)) + (10 : Int32)))) else ((u0 - (97 : Int32)) + (10 : Int32)))) else (if (57 : Int32) < u0 then (if u0 < (97 : Int32) then (if u0 < (65 : Int32) then (-1 : Int32) else (if (70 : Int32) < u0 then (-1 : Int32) else ((u0 - (65 : Int32)) + (10 : Int32)))) else (if (102 : Int32) < u0 then (if u0 < (65 : Int32) then (-1 : Int32) else (if (70 : Int32) < u0 then (-1 : Int32) else ((u0 - (65 : Int32)) + (10 : Int32)))) else ((u0 - (97 : Int32)) + (10 : Int32)))) else (u0 - (48 : Int32))))
theorem own_d7_0 : decode prog_18_method_7_code 0 = .ok (.iload_n 0, 1) := by decide +kernel
theorem own_d7_1 : decode prog_18_method_7_code 1 = .ok (.bipush 48, 2) := by decide +kernel
theorem own_d7_3 : decode prog_18_method_7_code 3 = .ok (.if_icmp .lt 14, 3) := by decide +kernel
theorem own_d7_6 : decode prog_18_method_7_code 6 = .ok (.iload_n 0, 1) := by decide +kernel
theorem own_d7_7 : decode prog_18_method_7_code 7 = .ok (.bipush 57, 2) := by decide +kernel
theorem own_d7_9 : decode prog_18_method_7_code 9 = .ok (.if_icmp .gt 8, 3) := by decide +kernel
theorem own_d7_12 : decode prog_18_method_7_code 12 = .ok (.iload_n 0, 1) := by decide +kernel
theorem own_d7_13 : decode prog_18_method_7_code 13 = .ok (.bipush 48, 2) := by decide +kernel
theorem own_d7_15 : decode prog_18_method_7_code 15 = .ok (.isub, 1) := by decide +kernel
theorem own_d7_16 : decode prog_18_method_7_code 16 = .ok (.ireturn, 1) := by decide +kernel
theorem own_d7_17 : decode prog_18_method_7_code 17 = .ok (.iload_n 0, 1) := by decide +kernel
theorem own_d7_18 : decode prog_18_method_7_code 18 = .ok (.bipush 97, 2) := by decide +kernel
theorem own_d7_20 : decode prog_18_method_7_code 20 = .ok (.if_icmp .lt 17, 3) := by decide +kernel
theorem own_d7_23 : decode prog_18_method_7_code 23 = .ok (.iload_n 0, 1) := by decide +kernel
theorem own_d7_24 : decode prog_18_method_7_code 24 = .ok (.bipush 102, 2) := by decide +kernel
theorem own_d7_26 : decode prog_18_method_7_code 26 = .ok (.if_icmp .gt 11, 3) := by decide +kernel
theorem own_d7_29 : decode prog_18_method_7_code 29 = .ok (.iload_n 0, 1) := by decide +kernel
theorem own_d7_30 : decode prog_18_method_7_code 30 = .ok (.bipush 97, 2) := by decide +kernel
theorem own_d7_32 : decode prog_18_method_7_code 32 = .ok (.isub, 1) := by decide +kernel
theorem own_d7_33 : decode prog_18_method_7_code 33 = .ok (.bipush 10, 2) := by decide +kernel
theorem own_d7_35 : decode prog_18_method_7_code 35 = .ok (.iadd, 1) := by decide +kernel
theorem own_d7_36 : decode prog_18_method_7_code 36 = .ok (.ireturn, 1) := by decide +kernel
theorem own_d7_37 : decode prog_18_method_7_code 37 = .ok (.iload_n 0, 1) := by decide +kernel
theorem own_d7_38 : decode prog_18_method_7_code 38 = .ok (.bipush 65, 2) := by decide +kernel
theorem own_d7_40 : decode prog_18_method_7_code 40 = .ok (.if_icmp .lt 17, 3) := by decide +kernel
theorem own_d7_43 : decode prog_18_method_7_code 43 = .ok (.iload_n 0, 1) := by decide +kernel
theorem own_d7_44 : decode prog_18_method_7_code 44 = .ok (.bipush 70, 2) := by decide +kernel
theorem own_d7_46 : decode prog_18_method_7_code 46 = .ok (.if_icmp .gt 11, 3) := by decide +kernel
theorem own_d7_49 : decode prog_18_method_7_code 49 = .ok (.iload_n 0, 1) := by decide +kernel
theorem own_d7_50 : decode prog_18_method_7_code 50 = .ok (.bipush 65, 2) := by decide +kernel
theorem own_d7_52 : decode prog_18_method_7_code 52 = .ok (.isub, 1) := by decide +kernel
theorem own_d7_53 : decode prog_18_method_7_code 53 = .ok (.bipush 10, 2) := by decide +kernel
theorem own_d7_55 : decode prog_18_method_7_code 55 = .ok (.iadd, 1) := by decide +kernel
theorem own_d7_56 : decode prog_18_method_7_code 56 = .ok (.ireturn, 1) := by decide +kernel
theorem own_d7_57 : decode prog_18_method_7_code 57 = .ok (.iconst (-1), 1) := by decide +kernel
theorem own_d7_58 : decode prog_18_method_7_code 58 = .ok (.ireturn, 1) := by decide +kernel
theorem own_pn_Syntax : plainName "com/example/ann_arbor/annarbor/http/wire/Syntax" = true := by first | (simp [plainName, overriddenIn]; done) | decide +kernel
theorem own_ef7 (m : MethodId) (u0 : Int32) : entryFrame m #[(.int u0)] 1 = mkF m 0 #[.val (.int u0)] [] := by first | (simp [entryFrame, mkF, argsToLocals, Value.category]; done) | rfl
def own_q_own_r7 (Z : State) (u0 : Int32) (h0 : Heap) (n0 : Nat) (v : Option Value) (h : Heap) (L : List Loc) : Prop := v = some (.int (own_f7 u0)) ∧ Fr n0 L ∧ h = h0
set_option maxRecDepth 65536 in
set_option maxHeartbeats 40000000 in
theorem own_r7 (l : Launch) (Z : State) (a0 : Array Value) (hw : ∀ d ∈ tables_1, d.before a0 Z = true) (ws : List Jvm.Cond) (u0 : Int32) (h0 : Heap) (n0 : Nat) (Z0 : n0 ≤ h0.size) :
    MetFree l (⟨"com/example/ann_arbor/annarbor/http/wire/Syntax", "hexValue", "(I)I"⟩ : MethodName) (head1 (Jvm.Cond.code (⟨"com/example/ann_arbor/annarbor/http/wire/Syntax", "hexValue", "(I)I"⟩ : MethodName) prog_18_method_7_code 1 (some .int) :: ws) ({ frames := 0, cells := 0, slots := 0, locals := 0 } : Room)) (fun aq Uq => aq = #[(.int u0)] ∧ Z.Warmed39 Uq.vm ∧ Uq.heap = h0) (fun _ _ _ _ _ => True) (fun _ Uq oq Uq' => ∃ vq Lq, oq = .returned vq ∧ own_q_own_r7 Z u0 h0 n0 vq Uq'.heap Lq ∧ FrameEnd Uq oq Uq' Lq ({ frames := 0, cells := 0, slots := 0, locals := 0 } : Room).cells ({ frames := 0, cells := 0, slots := 0, locals := 0 } : Room).slots) := by
  refine MetFree.of_bodySF (plainFor_of_name own_pn_Syntax) hisR ?_
  intro p e s m args below meth c T0 Bd hml0 hP hK
  obtain ⟨rfl, hZ, hh⟩ := hP
  have hx := Bd.exec
  have hby := Bd.bytes
  have hml : c.maxLocals = 1 := hml0
  have hown : s.vm.findClass "com/example/ann_arbor/annarbor/http/wire/Syntax" = some m.cls := findClass_of_methodNamed Bd.named
  have hnm := (name_of_methodNamed Bd.named Bd.method).1
  have hret : meth.sig.returnType = (some .int) := Bd.returns
  have hlk : meth.locks = false := BodyLoose.notSynchronized Bd
  have X0 : Stand p l e ({ frames := 0, cells := 0, slots := 0, locals := 0 } : Room) s m #[(.int u0)] below meth c T0 [] 0 0 := Stand.of_body Bd
  have e0 : T0.heap = h0 := by rw [← hh, Bd.state]; rfl
  have N0 := Fr.nil n0
  refine own_start (own_ef7 m u0) (Q := fun (v : Option Value) (h : Heap) (L : List Loc) => v = some (.int (own_f7 u0)) ∧ Fr n0 L ∧ h = h0) (k := 0) (j := 0) ?_
  show own_Go p e below T0 (mkF m 0 #[.val (.int u0)] []) _
  refine own_s_iloadN X0.here hx (hb hby own_d7_0) rfl ?_
  refine own_s_bipush X0.here hx (48 : Int32) (hb hby own_d7_1) rfl ?_
  by_cases hc3 : u0 < (48 : Int32)
  ·
    show own_Go p e below T0 (mkF m 3 #[.val (.int u0)] [(.int (48 : Int32)), (.int u0)]) _
    refine own_s_icmpYes X0.here hx 17 (hb hby own_d7_3) (Jvm.Free.XT.ii_lt_t hc3) (by decide) (by decide) ?_
    refine own_s_iloadN X0.here hx (hb hby own_d7_17) rfl ?_
    refine own_s_bipush X0.here hx (97 : Int32) (hb hby own_d7_18) rfl ?_
    by_cases hc20 : u0 < (97 : Int32)
    ·
      show own_Go p e below T0 (mkF m 20 #[.val (.int u0)] [(.int (97 : Int32)), (.int u0)]) _
      refine own_s_icmpYes X0.here hx 37 (hb hby own_d7_20) (Jvm.Free.XT.ii_lt_t hc20) (by decide) (by decide) ?_
      refine own_s_iloadN X0.here hx (hb hby own_d7_37) rfl ?_
      refine own_s_bipush X0.here hx (65 : Int32) (hb hby own_d7_38) rfl ?_
      by_cases hc40 : u0 < (65 : Int32)
      ·
        show own_Go p e below T0 (mkF m 40 #[.val (.int u0)] [(.int (65 : Int32)), (.int u0)]) _
        refine own_s_icmpYes X0.here hx 57 (hb hby own_d7_40) (Jvm.Free.XT.ii_lt_t hc40) (by decide) (by decide) ?_
        refine own_s_iconst X0.here hx (-1 : Int32) (hb hby own_d7_57) rfl ?_
        refine own_retI X0 hx hret hlk (hb hby own_d7_58) (by decide) (by decide) ?_
        exact ⟨by unfold own_f7; rw [if_pos hc3, if_pos hc20, if_pos hc40], N0, e0⟩
      ·
        refine own_s_icmpNo X0.here hx (hb hby own_d7_40) (Jvm.Free.XT.ii_lt_f hc40) ?_
        refine own_s_iloadN X0.here hx (hb hby own_d7_43) rfl ?_
        refine own_s_bipush X0.here hx (70 : Int32) (hb hby own_d7_44) rfl ?_
        by_cases hc46 : (70 : Int32) < u0
        ·
          show own_Go p e below T0 (mkF m 46 #[.val (.int u0)] [(.int (70 : Int32)), (.int u0)]) _
          refine own_s_icmpYes X0.here hx 57 (hb hby own_d7_46) (Jvm.Free.XT.ii_gt_t hc46) (by decide) (by decide) ?_
          refine own_s_iconst X0.here hx (-1 : Int32) (hb hby own_d7_57) rfl ?_
          refine own_retI X0 hx hret hlk (hb hby own_d7_58) (by decide) (by decide) ?_
          exact ⟨by unfold own_f7; rw [if_pos hc3, if_pos hc20, if_neg hc40, if_pos hc46], N0, e0⟩
        ·
          refine own_s_icmpNo X0.here hx (hb hby own_d7_46) (Jvm.Free.XT.ii_gt_f hc46) ?_
          refine own_s_iloadN X0.here hx (hb hby own_d7_49) rfl ?_
          refine own_s_bipush X0.here hx (65 : Int32) (hb hby own_d7_50) rfl ?_
          refine own_s_isub X0.here hx (hb hby own_d7_52) ?_
          refine own_s_bipush X0.here hx (10 : Int32) (hb hby own_d7_53) rfl ?_
          refine own_s_iadd X0.here hx (hb hby own_d7_55) ?_
          show own_Go p e below T0 (mkF m 56 #[.val (.int u0)] [(.int ((u0 - (65 : Int32)) + (10 : Int32)))]) _
          refine own_retI X0 hx hret hlk (hb hby own_d7_56) (by decide) (by decide) ?_
          exact ⟨by unfold own_f7; rw [if_pos hc3, if_pos hc20, if_neg hc40, if_neg hc46], N0, e0⟩
    ·
      refine own_s_icmpNo X0.here hx (hb hby own_d7_20) (Jvm.Free.XT.ii_lt_f hc20) ?_
      refine own_s_iloadN X0.here hx (hb hby own_d7_23) rfl ?_
      refine own_s_bipush X0.here hx (102 : Int32) (hb hby own_d7_24) rfl ?_
      by_cases hc26 : (102 : Int32) < u0
      ·
        show own_Go p e below T0 (mkF m 26 #[.val (.int u0)] [(.int (102 : Int32)), (.int u0)]) _
        refine own_s_icmpYes X0.here hx 37 (hb hby own_d7_26) (Jvm.Free.XT.ii_gt_t hc26) (by decide) (by decide) ?_
        refine own_s_iloadN X0.here hx (hb hby own_d7_37) rfl ?_
        refine own_s_bipush X0.here hx (65 : Int32) (hb hby own_d7_38) rfl ?_
        by_cases hc40 : u0 < (65 : Int32)
        ·
          show own_Go p e below T0 (mkF m 40 #[.val (.int u0)] [(.int (65 : Int32)), (.int u0)]) _
          refine own_s_icmpYes X0.here hx 57 (hb hby own_d7_40) (Jvm.Free.XT.ii_lt_t hc40) (by decide) (by decide) ?_
          refine own_s_iconst X0.here hx (-1 : Int32) (hb hby own_d7_57) rfl ?_
          refine own_retI X0 hx hret hlk (hb hby own_d7_58) (by decide) (by decide) ?_
          exact ⟨by unfold own_f7; rw [if_pos hc3, if_neg hc20, if_pos hc26, if_pos hc40], N0, e0⟩
        ·
          refine own_s_icmpNo X0.here hx (hb hby own_d7_40) (Jvm.Free.XT.ii_lt_f hc40) ?_
          refine own_s_iloadN X0.here hx (hb hby own_d7_43) rfl ?_
          refine own_s_bipush X0.here hx (70 : Int32) (hb hby own_d7_44) rfl ?_
          by_cases hc46 : (70 : Int32) < u0
          ·
            show own_Go p e below T0 (mkF m 46 #[.val (.int u0)] [(.int (70 : Int32)), (.int u0)]) _
            refine own_s_icmpYes X0.here hx 57 (hb hby own_d7_46) (Jvm.Free.XT.ii_gt_t hc46) (by decide) (by decide) ?_
            refine own_s_iconst X0.here hx (-1 : Int32) (hb hby own_d7_57) rfl ?_
            refine own_retI X0 hx hret hlk (hb hby own_d7_58) (by decide) (by decide) ?_
            exact ⟨by unfold own_f7; rw [if_pos hc3, if_neg hc20, if_pos hc26, if_neg hc40, if_pos hc46], N0, e0⟩
          ·
            refine own_s_icmpNo X0.here hx (hb hby own_d7_46) (Jvm.Free.XT.ii_gt_f hc46) ?_
            refine own_s_iloadN X0.here hx (hb hby own_d7_49) rfl ?_
            refine own_s_bipush X0.here hx (65 : Int32) (hb hby own_d7_50) rfl ?_
            refine own_s_isub X0.here hx (hb hby own_d7_52) ?_
            refine own_s_bipush X0.here hx (10 : Int32) (hb hby own_d7_53) rfl ?_
            refine own_s_iadd X0.here hx (hb hby own_d7_55) ?_
            show own_Go p e below T0 (mkF m 56 #[.val (.int u0)] [(.int ((u0 - (65 : Int32)) + (10 : Int32)))]) _
            refine own_retI X0 hx hret hlk (hb hby own_d7_56) (by decide) (by decide) ?_
            exact ⟨by unfold own_f7; rw [if_pos hc3, if_neg hc20, if_pos hc26, if_neg hc40, if_neg hc46], N0, e0⟩
      ·
        refine own_s_icmpNo X0.here hx (hb hby own_d7_26) (Jvm.Free.XT.ii_gt_f hc26) ?_
        refine own_s_iloadN X0.here hx (hb hby own_d7_29) rfl ?_
        refine own_s_bipush X0.here hx (97 : Int32) (hb hby own_d7_30) rfl ?_
        refine own_s_isub X0.here hx (hb hby own_d7_32) ?_
        refine own_s_bipush X0.here hx (10 : Int32) (hb hby own_d7_33) rfl ?_
        refine own_s_iadd X0.here hx (hb hby own_d7_35) ?_
        show own_Go p e below T0 (mkF m 36 #[.val (.int u0)] [(.int ((u0 - (97 : Int32)) + (10 : Int32)))]) _
        refine own_retI X0 hx hret hlk (hb hby own_d7_36) (by decide) (by decide) ?_
        exact ⟨by unfold own_f7; rw [if_pos hc3, if_neg hc20, if_neg hc26], N0, e0⟩
  ·
    refine own_s_icmpNo X0.here hx (hb hby own_d7_3) (Jvm.Free.XT.ii_lt_f hc3) ?_
    refine own_s_iloadN X0.here hx (hb hby own_d7_6) rfl ?_
    refine own_s_bipush X0.here hx (57 : Int32) (hb hby own_d7_7) rfl ?_
    by_cases hc9 : (57 : Int32) < u0
    ·
      show own_Go p e below T0 (mkF m 9 #[.val (.int u0)] [(.int (57 : Int32)), (.int u0)]) _
      refine own_s_icmpYes X0.here hx 17 (hb hby own_d7_9) (Jvm.Free.XT.ii_gt_t hc9) (by decide) (by decide) ?_
      refine own_s_iloadN X0.here hx (hb hby own_d7_17) rfl ?_
      refine own_s_bipush X0.here hx (97 : Int32) (hb hby own_d7_18) rfl ?_
      by_cases hc20 : u0 < (97 : Int32)
      ·
        show own_Go p e below T0 (mkF m 20 #[.val (.int u0)] [(.int (97 : Int32)), (.int u0)]) _
        refine own_s_icmpYes X0.here hx 37 (hb hby own_d7_20) (Jvm.Free.XT.ii_lt_t hc20) (by decide) (by decide) ?_
        refine own_s_iloadN X0.here hx (hb hby own_d7_37) rfl ?_
        refine own_s_bipush X0.here hx (65 : Int32) (hb hby own_d7_38) rfl ?_
        by_cases hc40 : u0 < (65 : Int32)
        ·
          show own_Go p e below T0 (mkF m 40 #[.val (.int u0)] [(.int (65 : Int32)), (.int u0)]) _
          refine own_s_icmpYes X0.here hx 57 (hb hby own_d7_40) (Jvm.Free.XT.ii_lt_t hc40) (by decide) (by decide) ?_
          refine own_s_iconst X0.here hx (-1 : Int32) (hb hby own_d7_57) rfl ?_
          refine own_retI X0 hx hret hlk (hb hby own_d7_58) (by decide) (by decide) ?_
          exact ⟨by unfold own_f7; rw [if_neg hc3, if_pos hc9, if_pos hc20, if_pos hc40], N0, e0⟩
        ·
          refine own_s_icmpNo X0.here hx (hb hby own_d7_40) (Jvm.Free.XT.ii_lt_f hc40) ?_
          refine own_s_iloadN X0.here hx (hb hby own_d7_43) rfl ?_
          refine own_s_bipush X0.here hx (70 : Int32) (hb hby own_d7_44) rfl ?_
          by_cases hc46 : (70 : Int32) < u0
          ·
            show own_Go p e below T0 (mkF m 46 #[.val (.int u0)] [(.int (70 : Int32)), (.int u0)]) _
            refine own_s_icmpYes X0.here hx 57 (hb hby own_d7_46) (Jvm.Free.XT.ii_gt_t hc46) (by decide) (by decide) ?_
            refine own_s_iconst X0.here hx (-1 : Int32) (hb hby own_d7_57) rfl ?_
            refine own_retI X0 hx hret hlk (hb hby own_d7_58) (by decide) (by decide) ?_
            exact ⟨by unfold own_f7; rw [if_neg hc3, if_pos hc9, if_pos hc20, if_neg hc40, if_pos hc46], N0, e0⟩
          ·
            refine own_s_icmpNo X0.here hx (hb hby own_d7_46) (Jvm.Free.XT.ii_gt_f hc46) ?_
            refine own_s_iloadN X0.here hx (hb hby own_d7_49) rfl ?_
            refine own_s_bipush X0.here hx (65 : Int32) (hb hby own_d7_50) rfl ?_
            refine own_s_isub X0.here hx (hb hby own_d7_52) ?_
            refine own_s_bipush X0.here hx (10 : Int32) (hb hby own_d7_53) rfl ?_
            refine own_s_iadd X0.here hx (hb hby own_d7_55) ?_
            show own_Go p e below T0 (mkF m 56 #[.val (.int u0)] [(.int ((u0 - (65 : Int32)) + (10 : Int32)))]) _
            refine own_retI X0 hx hret hlk (hb hby own_d7_56) (by decide) (by decide) ?_
            exact ⟨by unfold own_f7; rw [if_neg hc3, if_pos hc9, if_pos hc20, if_neg hc40, if_neg hc46], N0, e0⟩
      ·
        refine own_s_icmpNo X0.here hx (hb hby own_d7_20) (Jvm.Free.XT.ii_lt_f hc20) ?_
        refine own_s_iloadN X0.here hx (hb hby own_d7_23) rfl ?_
        refine own_s_bipush X0.here hx (102 : Int32) (hb hby own_d7_24) rfl ?_
        by_cases hc26 : (102 : Int32) < u0
        ·
          show own_Go p e below T0 (mkF m 26 #[.val (.int u0)] [(.int (102 : Int32)), (.int u0)]) _
          refine own_s_icmpYes X0.here hx 37 (hb hby own_d7_26) (Jvm.Free.XT.ii_gt_t hc26) (by decide) (by decide) ?_
          refine own_s_iloadN X0.here hx (hb hby own_d7_37) rfl ?_
          refine own_s_bipush X0.here hx (65 : Int32) (hb hby own_d7_38) rfl ?_
          by_cases hc40 : u0 < (65 : Int32)
          ·
            show own_Go p e below T0 (mkF m 40 #[.val (.int u0)] [(.int (65 : Int32)), (.int u0)]) _
            refine own_s_icmpYes X0.here hx 57 (hb hby own_d7_40) (Jvm.Free.XT.ii_lt_t hc40) (by decide) (by decide) ?_
            refine own_s_iconst X0.here hx (-1 : Int32) (hb hby own_d7_57) rfl ?_
            refine own_retI X0 hx hret hlk (hb hby own_d7_58) (by decide) (by decide) ?_
            exact ⟨by unfold own_f7; rw [if_neg hc3, if_pos hc9, if_neg hc20, if_pos hc26, if_pos hc40], N0, e0⟩
          ·
            refine own_s_icmpNo X0.here hx (hb hby own_d7_40) (Jvm.Free.XT.ii_lt_f hc40) ?_
            refine own_s_iloadN X0.here hx (hb hby own_d7_43) rfl ?_
            refine own_s_bipush X0.here hx (70 : Int32) (hb hby own_d7_44) rfl ?_
            by_cases hc46 : (70 : Int32) < u0
            ·
              show own_Go p e below T0 (mkF m 46 #[.val (.int u0)] [(.int (70 : Int32)), (.int u0)]) _
              refine own_s_icmpYes X0.here hx 57 (hb hby own_d7_46) (Jvm.Free.XT.ii_gt_t hc46) (by decide) (by decide) ?_
              refine own_s_iconst X0.here hx (-1 : Int32) (hb hby own_d7_57) rfl ?_
              refine own_retI X0 hx hret hlk (hb hby own_d7_58) (by decide) (by decide) ?_
              exact ⟨by unfold own_f7; rw [if_neg hc3, if_pos hc9, if_neg hc20, if_pos hc26, if_neg hc40, if_pos hc46], N0, e0⟩
            ·
              refine own_s_icmpNo X0.here hx (hb hby own_d7_46) (Jvm.Free.XT.ii_gt_f hc46) ?_
              refine own_s_iloadN X0.here hx (hb hby own_d7_49) rfl ?_
              refine own_s_bipush X0.here hx (65 : Int32) (hb hby own_d7_50) rfl ?_
              refine own_s_isub X0.here hx (hb hby own_d7_52) ?_
              refine own_s_bipush X0.here hx (10 : Int32) (hb hby own_d7_53) rfl ?_
              refine own_s_iadd X0.here hx (hb hby own_d7_55) ?_
              show own_Go p e below T0 (mkF m 56 #[.val (.int u0)] [(.int ((u0 - (65 : Int32)) + (10 : Int32)))]) _
              refine own_retI X0 hx hret hlk (hb hby own_d7_56) (by decide) (by decide) ?_
              exact ⟨by unfold own_f7; rw [if_neg hc3, if_pos hc9, if_neg hc20, if_pos hc26, if_neg hc40, if_neg hc46], N0, e0⟩
        ·
          refine own_s_icmpNo X0.here hx (hb hby own_d7_26) (Jvm.Free.XT.ii_gt_f hc26) ?_
          refine own_s_iloadN X0.here hx (hb hby own_d7_29) rfl ?_
          refine own_s_bipush X0.here hx (97 : Int32) (hb hby own_d7_30) rfl ?_
          refine own_s_isub X0.here hx (hb hby own_d7_32) ?_
          refine own_s_bipush X0.here hx (10 : Int32) (hb hby own_d7_33) rfl ?_
          refine own_s_iadd X0.here hx (hb hby own_d7_35) ?_
          show own_Go p e below T0 (mkF m 36 #[.val (.int u0)] [(.int ((u0 - (97 : Int32)) + (10 : Int32)))]) _
          refine own_retI X0 hx hret hlk (hb hby own_d7_36) (by decide) (by decide) ?_
          exact ⟨by unfold own_f7; rw [if_neg hc3, if_pos hc9, if_neg hc20, if_neg hc26], N0, e0⟩
    ·
      refine own_s_icmpNo X0.here hx (hb hby own_d7_9) (Jvm.Free.XT.ii_gt_f hc9) ?_
      refine own_s_iloadN X0.here hx (hb hby own_d7_12) rfl ?_
      refine own_s_bipush X0.here hx (48 : Int32) (hb hby own_d7_13) rfl ?_
      refine own_s_isub X0.here hx (hb hby own_d7_15) ?_
      refine own_retI X0 hx hret hlk (hb hby own_d7_16) (by decide) (by decide) ?_
      exact ⟨by unfold own_f7; rw [if_neg hc3, if_neg hc9], N0, e0⟩
theorem own_d6_0 : decode jdk_41_method_11_code 0 = .ok (.iload_n 0, 1) := by decide +kernel
theorem own_d6_1 : decode jdk_41_method_11_code 1 = .ok (.ifCond .lt 8, 3) := by decide +kernel
theorem own_d6_4 : decode jdk_41_method_11_code 4 = .ok (.iload_n 0, 1) := by decide +kernel
theorem own_d6_5 : decode jdk_41_method_11_code 5 = .ok (.iload_n 1, 1) := by decide +kernel
theorem own_d6_6 : decode jdk_41_method_11_code 6 = .ok (.if_icmp .lt 10, 3) := by decide +kernel
theorem own_d6_9 : decode jdk_41_method_11_code 9 = .ok (.aload_n 2, 1) := by decide +kernel
theorem own_d6_10 : decode jdk_41_method_11_code 10 = .ok (.iload_n 0, 1) := by decide +kernel
theorem own_d6_11 : decode jdk_41_method_11_code 11 = .ok (.iload_n 1, 1) := by decide +kernel
theorem own_d6_12 : decode jdk_41_method_11_code 12 = .ok (.invokestatic 95, 3) := by decide +kernel
theorem own_d6_15 : decode jdk_41_method_11_code 15 = .ok (.athrow, 1) := by decide +kernel
theorem own_d6_16 : decode jdk_41_method_11_code 16 = .ok (.iload_n 0, 1) := by decide +kernel
theorem own_d6_17 : decode jdk_41_method_11_code 17 = .ok (.ireturn, 1) := by decide +kernel
theorem own_pn_Preconditions : plainName "jdk/internal/util/Preconditions" = true := by first | (simp [plainName, overriddenIn]; done) | decide +kernel
theorem own_ef6n (m : MethodId) (i_ : Int32) (n_ : Int32) : entryFrame m #[(.int i_), (.int n_), .null] 3 = mkF m 0 #[.val (.int i_), .val (.int n_), .val .null] [] := by first | (simp [entryFrame, mkF, argsToLocals, Value.category]; done) | rfl
def own_q_own_preN (Z : State) (i_ : Int32) (n_ : Int32) (h0 : Heap) (n0 : Nat) (v : Option Value) (h : Heap) (L : List Loc) : Prop := v = some (.int i_) ∧ Fr n0 L ∧ h = h0
set_option maxRecDepth 65536 in
set_option maxHeartbeats 40000000 in
theorem own_preN (l : Launch) (Z : State) (a0 : Array Value) (hw : ∀ d ∈ tables_1, d.before a0 Z = true) (ws : List Jvm.Cond) (i_ : Int32) (n_ : Int32) (h0 : Heap) (n0 : Nat) (Z0 : n0 ≤ h0.size) (hi : ¬ i_ < 0) (hn : i_ < n_) :
    MetFree l (⟨"jdk/internal/util/Preconditions", "checkIndex", "(IILjava/util/function/BiFunction;)I"⟩ : MethodName) (head1 (Jvm.Cond.code (⟨"jdk/internal/util/Preconditions", "checkIndex", "(IILjava/util/function/BiFunction;)I"⟩ : MethodName) jdk_41_method_11_code 3 (some .int) :: ws) ({ frames := 0, cells := 0, slots := 0, locals := 0 } : Room)) (fun aq Uq => aq = #[(.int i_), (.int n_), .null] ∧ Z.Warmed39 Uq.vm ∧ Uq.heap = h0) (fun _ _ _ _ _ => True) (fun _ Uq oq Uq' => ∃ vq Lq, oq = .returned vq ∧ own_q_own_preN Z i_ n_ h0 n0 vq Uq'.heap Lq ∧ FrameEnd Uq oq Uq' Lq ({ frames := 0, cells := 0, slots := 0, locals := 0 } : Room).cells ({ frames := 0, cells := 0, slots := 0, locals := 0 } : Room).slots) := by
  refine MetFree.of_bodySF (plainFor_of_name own_pn_Preconditions) hisR ?_
  intro p e s m args below meth c T0 Bd hml0 hP hK
  obtain ⟨rfl, hZ, hh⟩ := hP
  have hx := Bd.exec
  have hby := Bd.bytes
  have hml : c.maxLocals = 3 := hml0
  have hown : s.vm.findClass "jdk/internal/util/Preconditions" = some m.cls := findClass_of_methodNamed Bd.named
  have hnm := (name_of_methodNamed Bd.named Bd.method).1
  have hret : meth.sig.returnType = (some .int) := Bd.returns
  have hlk : meth.locks = false := BodyLoose.notSynchronized Bd
  have X0 : Stand p l e ({ frames := 0, cells := 0, slots := 0, locals := 0 } : Room) s m #[(.int i_), (.int n_), .null] below meth c T0 [] 0 0 := Stand.of_body Bd
  have e0 : T0.heap = h0 := by rw [← hh, Bd.state]; rfl
  have N0 := Fr.nil n0
  refine own_start (own_ef6n m i_ n_) (Q := fun (v : Option Value) (h : Heap) (L : List Loc) => v = some (.int i_) ∧ Fr n0 L ∧ h = h0) (k := 0) (j := 0) ?_
  show own_Go p e below T0 (mkF m 0 #[.val (.int i_), .val (.int n_), .val .null] []) _
  refine own_s_iloadN X0.here hx (hb hby own_d6_0) rfl ?_
  refine own_s_ifNo X0.here hx (hb hby own_d6_1) (Jvm.Free.XT.i0_lt_f hi) ?_
  refine own_s_iloadN X0.here hx (hb hby own_d6_4) rfl ?_
  refine own_s_iloadN X0.here hx (hb hby own_d6_5) rfl ?_
  show own_Go p e below T0 (mkF m 6 #[.val (.int i_), .val (.int n_), .val .null] [(.int n_), (.int i_)]) _
  refine own_s_icmpYes X0.here hx 16 (hb hby own_d6_6) (Jvm.Free.XT.ii_lt_t hn) (by decide) (by decide) ?_
  refine own_s_iloadN X0.here hx (hb hby own_d6_16) rfl ?_
  refine own_retI X0 hx hret hlk (hb hby own_d6_17) (by decide) (by decide) ?_
  exact ⟨rfl, N0, e0⟩
theorem own_ef6 (m : MethodId) (i_ : Int32) (n_ : Int32) (q_ : Addr) : entryFrame m #[(.int i_), (.int n_), (.ref q_)] 3 = mkF m 0 #[.val (.int i_), .val (.int n_), .val (.ref q_)] [] := by first | (simp [entryFrame, mkF, argsToLocals, Value.category]; done) | rfl
def own_q_own_preR (Z : State) (i_ : Int32) (n_ : Int32) (q_ : Addr) (h0 : Heap) (n0 : Nat) (v : Option Value) (h : Heap) (L : List Loc) : Prop := v = some (.int i_) ∧ Fr n0 L ∧ h = h0
set_option maxRecDepth 65536 in
set_option maxHeartbeats 40000000 in
theorem own_preR (l : Launch) (Z : State) (a0 : Array Value) (hw : ∀ d ∈ tables_1, d.before a0 Z = true) (ws : List Jvm.Cond) (i_ : Int32) (n_ : Int32) (q_ : Addr) (h0 : Heap) (n0 : Nat) (Z0 : n0 ≤ h0.size) (hi : ¬ i_ < 0) (hn : i_ < n_) :
    MetFree l (⟨"jdk/internal/util/Preconditions", "checkIndex", "(IILjava/util/function/BiFunction;)I"⟩ : MethodName) (head1 (Jvm.Cond.code (⟨"jdk/internal/util/Preconditions", "checkIndex", "(IILjava/util/function/BiFunction;)I"⟩ : MethodName) jdk_41_method_11_code 3 (some .int) :: ws) ({ frames := 0, cells := 0, slots := 0, locals := 0 } : Room)) (fun aq Uq => aq = #[(.int i_), (.int n_), (.ref q_)] ∧ Z.Warmed39 Uq.vm ∧ Uq.heap = h0) (fun _ _ _ _ _ => True) (fun _ Uq oq Uq' => ∃ vq Lq, oq = .returned vq ∧ own_q_own_preR Z i_ n_ q_ h0 n0 vq Uq'.heap Lq ∧ FrameEnd Uq oq Uq' Lq ({ frames := 0, cells := 0, slots := 0, locals := 0 } : Room).cells ({ frames := 0, cells := 0, slots := 0, locals := 0 } : Room).slots) := by
  refine MetFree.of_bodySF (plainFor_of_name own_pn_Preconditions) hisR ?_
  intro p e s m args below meth c T0 Bd hml0 hP hK
  obtain ⟨rfl, hZ, hh⟩ := hP
  have hx := Bd.exec
  have hby := Bd.bytes
  have hml : c.maxLocals = 3 := hml0
  have hown : s.vm.findClass "jdk/internal/util/Preconditions" = some m.cls := findClass_of_methodNamed Bd.named
  have hnm := (name_of_methodNamed Bd.named Bd.method).1
  have hret : meth.sig.returnType = (some .int) := Bd.returns
  have hlk : meth.locks = false := BodyLoose.notSynchronized Bd
  have X0 : Stand p l e ({ frames := 0, cells := 0, slots := 0, locals := 0 } : Room) s m #[(.int i_), (.int n_), (.ref q_)] below meth c T0 [] 0 0 := Stand.of_body Bd
  have e0 : T0.heap = h0 := by rw [← hh, Bd.state]; rfl
  have N0 := Fr.nil n0
  refine own_start (own_ef6 m i_ n_ q_) (Q := fun (v : Option Value) (h : Heap) (L : List Loc) => v = some (.int i_) ∧ Fr n0 L ∧ h = h0) (k := 0) (j := 0) ?_
  show own_Go p e below T0 (mkF m 0 #[.val (.int i_), .val (.int n_), .val (.ref q_)] []) _
  refine own_s_iloadN X0.here hx (hb hby own_d6_0) rfl ?_
  refine own_s_ifNo X0.here hx (hb hby own_d6_1) (Jvm.Free.XT.i0_lt_f hi) ?_
  refine own_s_iloadN X0.here hx (hb hby own_d6_4) rfl ?_
  refine own_s_iloadN X0.here hx (hb hby own_d6_5) rfl ?_
  show own_Go p e below T0 (mkF m 6 #[.val (.int i_), .val (.int n_), .val (.ref q_)] [(.int n_), (.int i_)]) _
  refine own_s_icmpYes X0.here hx 16 (hb hby own_d6_6) (Jvm.Free.XT.ii_lt_t hn) (by decide) (by decide) ?_
  refine own_s_iloadN X0.here hx (hb hby own_d6_16) rfl ?_
  refine own_retI X0 hx hret hlk (hb hby own_d6_17) (by decide) (by decide) ?_
  exact ⟨rfl, N0, e0⟩
theorem own_d5_0 : decode jdk_42_method_155_code 0 = .ok (.iload_n 0, 1) := by decide +kernel
theorem own_d5_1 : decode jdk_42_method_155_code 1 = .ok (.iload_n 1, 1) := by decide +kernel
theorem own_d5_2 : decode jdk_42_method_155_code 2 = .ok (.getstatic 1053, 3) := by decide +kernel
theorem own_d5_5 : decode jdk_42_method_155_code 5 = .ok (.invokestatic 1059, 3) := by decide +kernel
theorem own_d5_8 : decode jdk_42_method_155_code 8 = .ok (.pop, 1) := by decide +kernel
theorem own_d5_9 : decode jdk_42_method_155_code 9 = .ok (.return_, 1) := by decide +kernel
theorem own_pn_String : plainName "java/lang/String" = true := by first | (simp [plainName, overriddenIn]; done) | decide +kernel
theorem own_ef5 (m : MethodId) (i_ : Int32) (n_ : Int32) : entryFrame m #[(.int i_), (.int n_)] 2 = mkF m 0 #[.val (.int i_), .val (.int n_)] [] := by first | (simp [entryFrame, mkF, argsToLocals, Value.category]; done) | rfl
theorem own_pd_5 : parseMethodDescriptor "(IILjava/util/function/BiFunction;)I" = some ⟨[.int, .int, (.object "java/util/function/BiFunction")], some .int⟩ := by decide +kernel
def own_q_own_r5 (Z : State) (i_ : Int32) (n_ : Int32) (fm : Value) (h0 : Heap) (n0 : Nat) (v : Option Value) (h : Heap) (L : List Loc) : Prop := v = none ∧ Fr n0 L ∧ h = h0
set_option maxRecDepth 65536 in
set_option maxHeartbeats 40000000 in
theorem own_r5 (l : Launch) (Z : State) (a0 : Array Value) (hw : ∀ d ∈ tables_1, d.before a0 Z = true) (ws : List Jvm.Cond) (i_ : Int32) (n_ : Int32) (fm : Value) (h0 : Heap) (n0 : Nat) (Z0 : n0 ≤ h0.size) (hi : ¬ i_ < 0) (hn : i_ < n_) (S2 : Sta Z h0 "jdk/internal/util/Preconditions" "SIOOBE_FORMATTER" "Ljava/util/function/BiFunction;" fm) (hfm : fm.isRef = true) :
    MetFree l (⟨"java/lang/String", "checkIndex", "(II)V"⟩ : MethodName) (head1 (Jvm.Cond.code (⟨"java/lang/String", "checkIndex", "(II)V"⟩ : MethodName) jdk_42_method_155_code 2 none :: ws) ({ frames := 1, cells := 0, slots := 0, locals := 14 } : Room)) (fun aq Uq => aq = #[(.int i_), (.int n_)] ∧ Z.Warmed39 Uq.vm ∧ Uq.heap = h0) (fun _ _ _ _ _ => True) (fun _ Uq oq Uq' => ∃ vq Lq, oq = .returned vq ∧ own_q_own_r5 Z i_ n_ fm h0 n0 vq Uq'.heap Lq ∧ FrameEnd Uq oq Uq' Lq ({ frames := 1, cells := 0, slots := 0, locals := 14 } : Room).cells ({ frames := 1, cells := 0, slots := 0, locals := 14 } : Room).slots) := by
  refine MetFree.of_bodySF (plainFor_of_name own_pn_String) hisR ?_
  intro p e s m args below meth c T0 Bd hml0 hP hK
  obtain ⟨rfl, hZ, hh⟩ := hP
  have hx := Bd.exec
  have hby := Bd.bytes
  have hml : c.maxLocals = 2 := hml0
  have hown : s.vm.findClass "java/lang/String" = some m.cls := findClass_of_methodNamed Bd.named
  have hnm := (name_of_methodNamed Bd.named Bd.method).1
  have hret : meth.sig.returnType = none := Bd.returns
  have hlk : meth.locks = false := BodyLoose.notSynchronized Bd
  have X0 : Stand p l e ({ frames := 1, cells := 0, slots := 0, locals := 14 } : Room) s m #[(.int i_), (.int n_)] below meth c T0 [] 0 0 := Stand.of_body Bd
  have e0 : T0.heap = h0 := by rw [← hh, Bd.state]; rfl
  have N0 := Fr.nil n0
  refine own_start (own_ef5 m i_ n_) (Q := fun (v : Option Value) (h : Heap) (L : List Loc) => v = none ∧ Fr n0 L ∧ h = h0) (k := 0) (j := 0) ?_
  show own_Go p e below T0 (mkF m 0 #[.val (.int i_), .val (.int n_)] []) _
  rcases own_isref hfm with rfl | ⟨q_, rfl⟩
  ·
    refine own_s_iloadN X0.here hx (hb hby own_d5_0) rfl ?_
    refine own_s_iloadN X0.here hx (hb hby own_d5_1) rfl ?_
    obtain ⟨T1, X1, e1, st1⟩ := getS2 X0 hx hZ hown (host := "") (Or.inl (hw _ (List.mem_of_getElem? (i := 33) rfl))) Via.refl e0 S2 (g := (mkF m 2 #[.val (.int i_), .val (.int n_)] [(.int n_), (.int i_)])) rfl (hb hby own_d5_2)
    refine own_by st1 ?_
    show own_Go p e below T1 (mkF m 5 #[.val (.int i_), .val (.int n_)] [.null, (.int n_), (.int i_)]) _
    obtain ⟨_, _, ⟨T2, L2, k2, n2⟩, -, X2, ⟨Lc2, hQ2, l2, y2, z2⟩, st2⟩ := Jvm.LawKit.callS X1 hx (y := (⟨"jdk/internal/util/Preconditions", "checkIndex", "(IILjava/util/function/BiFunction;)I"⟩ : MethodName)) hown (mvT hZ (hw _ (List.mem_of_getElem? (i := 35) rfl))) (mvT hZ (hw _ (List.mem_of_getElem? (i := 36) rfl))) (mvT hZ (hw _ (List.mem_of_getElem? (i := 34) rfl))) (mvT hZ (hw _ (List.mem_of_getElem? (i := 37) rfl))) (by decide) (backOf (W := 0) (own_preN l Z a0 hw [] i_ n_  h0 n0 Z0 hi hn) hZ (hw _ (List.mem_of_getElem? (i := 37) rfl)) (hw _ (List.mem_of_getElem? (i := 34) rfl)) (by decide) (by decide)) (g := (mkF m 5 #[.val (.int i_), .val (.int n_)] [.null, (.int n_), (.int i_)])) rfl (by rw [hml]; rfl) (argsL := [(.int i_), (.int n_), .null]) (rest := []) (lenOf own_pd_5 rfl) rfl (by show 2 * 0 + _ ≤ _; exact Nat.le_of_eq rfl) (hb hby own_d5_5) (fun _ _ => ⟨rfl, e1, (by decide : 0 + 0 ≤ _), (by decide : 0 + 0 ≤ _)⟩)
    dsimp only [Pt.U, Pt.locs, Pt.cells, Pt.slots] at X2 l2 y2 z2 st2 hQ2
    subst l2 y2 z2
    obtain ⟨rfl, N2q, e2⟩ := hQ2
    have N2 := Fr.app N0 N2q
    refine own_by st2 ?_
    show own_Go p e below T2 (mkF m 8 #[.val (.int i_), .val (.int n_)] [(.int i_)]) _
    refine own_s_pop X2.here hx (hb hby own_d5_8) rfl ?_
    refine own_retV X2 hx hret hlk (hb hby own_d5_9) (by decide) (by decide) ?_
    exact ⟨rfl, N2, e2⟩
  ·
    refine own_s_iloadN X0.here hx (hb hby own_d5_0) rfl ?_
    refine own_s_iloadN X0.here hx (hb hby own_d5_1) rfl ?_
    obtain ⟨T3, X3, e3, st3⟩ := getS2 X0 hx hZ hown (host := "") (Or.inl (hw _ (List.mem_of_getElem? (i := 33) rfl))) Via.refl e0 S2 (g := (mkF m 2 #[.val (.int i_), .val (.int n_)] [(.int n_), (.int i_)])) rfl (hb hby own_d5_2)
    refine own_by st3 ?_
    show own_Go p e below T3 (mkF m 5 #[.val (.int i_), .val (.int n_)] [(.ref q_), (.int n_), (.int i_)]) _
    obtain ⟨_, _, ⟨T4, L4, k4, n4⟩, -, X4, ⟨Lc4, hQ4, l4, y4, z4⟩, st4⟩ := Jvm.LawKit.callS X3 hx (y := (⟨"jdk/internal/util/Preconditions", "checkIndex", "(IILjava/util/function/BiFunction;)I"⟩ : MethodName)) hown (mvT hZ (hw _ (List.mem_of_getElem? (i := 35) rfl))) (mvT hZ (hw _ (List.mem_of_getElem? (i := 36) rfl))) (mvT hZ (hw _ (List.mem_of_getElem? (i := 34) rfl))) (mvT hZ (hw _ (List.mem_of_getElem? (i := 37) rfl))) (by decide) (backOf (W := 0) (own_preR l Z a0 hw [] i_ n_ q_  h0 n0 Z0 hi hn) hZ (hw _ (List.mem_of_getElem? (i := 37) rfl)) (hw _ (List.mem_of_getElem? (i := 34) rfl)) (by decide) (by decide)) (g := (mkF m 5 #[.val (.int i_), .val (.int n_)] [(.ref q_), (.int n_), (.int i_)])) rfl (by rw [hml]; rfl) (argsL := [(.int i_), (.int n_), (.ref q_)]) (rest := []) (lenOf own_pd_5 rfl) rfl (by show 2 * 0 + _ ≤ _; exact Nat.le_of_eq rfl) (hb hby own_d5_5) (fun _ _ => ⟨rfl, e3, (by decide : 0 + 0 ≤ _), (by decide : 0 + 0 ≤ _)⟩)
    dsimp only [Pt.U, Pt.locs, Pt.cells, Pt.slots] at X4 l4 y4 z4 st4 hQ4
    subst l4 y4 z4
    obtain ⟨rfl, N4q, e4⟩ := hQ4
    have N4 := Fr.app N0 N4q
    refine own_by st4 ?_
    show own_Go p e below T4 (mkF m 8 #[.val (.int i_), .val (.int n_)] [(.int i_)]) _
    refine own_s_pop X4.here hx (hb hby own_d5_8) rfl ?_
    refine own_retV X4 hx hret hlk (hb hby own_d5_9) (by decide) (by decide) ?_
    exact ⟨rfl, N4, e4⟩
theorem own_jlt {j : Int32} {k : Nat} (h : own_At j k) (hk : k < 16) : j < Int32.ofNat 16 := by
  obtain ⟨h1, h2⟩ := h
  rw [Int32.lt_iff_toInt_lt] at h1 ⊢
  rw [show (0 : Int32).toInt = 0 from rfl] at h1
  rw [show (Int32.ofNat 16).toInt = 16 from by decide]
  simp only [Int32.toNatClampNeg] at h2
  omega
theorem own_d4_0 : decode jdk_43_method_2_code 0 = .ok (.iload_n 1, 1) := by decide +kernel
theorem own_d4_1 : decode jdk_43_method_2_code 1 = .ok (.aload_n 0, 1) := by decide +kernel
theorem own_d4_2 : decode jdk_43_method_2_code 2 = .ok (.arraylength, 1) := by decide +kernel
theorem own_d4_3 : decode jdk_43_method_2_code 3 = .ok (.invokestatic 9, 3) := by decide +kernel
theorem own_d4_6 : decode jdk_43_method_2_code 6 = .ok (.aload_n 0, 1) := by decide +kernel
theorem own_d4_7 : decode jdk_43_method_2_code 7 = .ok (.iload_n 1, 1) := by decide +kernel
theorem own_d4_8 : decode jdk_43_method_2_code 8 = .ok (.baload, 1) := by decide +kernel
theorem own_d4_9 : decode jdk_43_method_2_code 9 = .ok (.sipush 255, 3) := by decide +kernel
theorem own_d4_12 : decode jdk_43_method_2_code 12 = .ok (.iand, 1) := by decide +kernel
theorem own_d4_13 : decode jdk_43_method_2_code 13 = .ok (.i2c, 1) := by decide +kernel
theorem own_d4_14 : decode jdk_43_method_2_code 14 = .ok (.ireturn, 1) := by decide +kernel
theorem own_pn_StringLatin1 : plainName "java/lang/StringLatin1" = true := by first | (simp [plainName, overriddenIn]; done) | decide +kernel
theorem own_ef4 (m : MethodId) (b_ : Addr) (j_ : Int32) : entryFrame m #[(.ref b_), (.int j_)] 2 = mkF m 0 #[.val (.ref b_), .val (.int j_)] [] := by first | (simp [entryFrame, mkF, argsToLocals, Value.category]; done) | rfl
theorem own_pd_4 : parseMethodDescriptor "(II)V" = some ⟨[.int, .int], none⟩ := by decide +kernel
def own_q_own_r4 (Z : State) (b_ : Addr) (j_ : Int32) (bs : Nat → Int32) (jn : Nat) (fm : Value) (h0 : Heap) (n0 : Nat) (v : Option Value) (h : Heap) (L : List Loc) : Prop := v = some (.int (own_ch (bs jn))) ∧ Fr n0 L ∧ h = h0
set_option maxRecDepth 65536 in
set_option maxHeartbeats 40000000 in
theorem own_r4 (l : Launch) (Z : State) (a0 : Array Value) (hw : ∀ d ∈ tables_1, d.before a0 Z = true) (ws : List Jvm.Cond) (b_ : Addr) (j_ : Int32) (bs : Nat → Int32) (jn : Nat) (fm : Value) (h0 : Heap) (n0 : Nat) (Z0 : n0 ≤ h0.size) (hj : own_At j_ jn) (hjn : jn < 16) (S2 : Sta Z h0 "jdk/internal/util/Preconditions" "SIOOBE_FORMATTER" "Ljava/util/function/BiFunction;" fm) (hfm : fm.isRef = true) (A_b_ : own_Av Z h0 b_ .byte 16 (fun i => .int (bs i))) :
    MetFree l (⟨"java/lang/StringLatin1", "charAt", "([BI)C"⟩ : MethodName) (head1 (Jvm.Cond.code (⟨"java/lang/StringLatin1", "charAt", "([BI)C"⟩ : MethodName) jdk_43_method_2_code 2 (some .char) :: ws) ({ frames := 2, cells := 0, slots := 0, locals := 27 } : Room)) (fun aq Uq => aq = #[(.ref b_), (.int j_)] ∧ Z.Warmed39 Uq.vm ∧ Uq.heap = h0) (fun _ _ _ _ _ => True) (fun _ Uq oq Uq' => ∃ vq Lq, oq = .returned vq ∧ own_q_own_r4 Z b_ j_ bs jn fm h0 n0 vq Uq'.heap Lq ∧ FrameEnd Uq oq Uq' Lq ({ frames := 2, cells := 0, slots := 0, locals := 27 } : Room).cells ({ frames := 2, cells := 0, slots := 0, locals := 27 } : Room).slots) := by
  refine MetFree.of_bodySF (plainFor_of_name own_pn_StringLatin1) hisR ?_
  intro p e s m args below meth c T0 Bd hml0 hP hK
  obtain ⟨rfl, hZ, hh⟩ := hP
  have hx := Bd.exec
  have hby := Bd.bytes
  have hml : c.maxLocals = 2 := hml0
  have hown : s.vm.findClass "java/lang/StringLatin1" = some m.cls := findClass_of_methodNamed Bd.named
  have hnm := (name_of_methodNamed Bd.named Bd.method).1
  have hret : meth.sig.returnType = (some .char) := Bd.returns
  have hlk : meth.locks = false := BodyLoose.notSynchronized Bd
  have X0 : Stand p l e ({ frames := 2, cells := 0, slots := 0, locals := 27 } : Room) s m #[(.ref b_), (.int j_)] below meth c T0 [] 0 0 := Stand.of_body Bd
  have e0 : T0.heap = h0 := by rw [← hh, Bd.state]; rfl
  have N0 := Fr.nil n0
  refine own_start (own_ef4 m b_ j_) (Q := fun (v : Option Value) (h : Heap) (L : List Loc) => v = some (.int (own_ch (bs jn))) ∧ Fr n0 L ∧ h = h0) (k := 0) (j := 0) ?_
  show own_Go p e below T0 (mkF m 0 #[.val (.ref b_), .val (.int j_)] []) _
  refine own_s_iloadN X0.here hx (hb hby own_d4_0) rfl ?_
  refine own_s_aloadN X0.here hx (hb hby own_d4_1) rfl rfl ?_
  refine own_by (fun tq_ kq_ => own_len X0 hx hZ e0 A_b_ (z := (Int32.ofNat 16)) rfl (g := (mkF m 2 #[.val (.ref b_), .val (.int j_)] [(.ref b_), (.int j_)])) rfl rfl (hb hby own_d4_2) tq_ kq_) ?_
  show own_Go p e below T0 (mkF m 3 #[.val (.ref b_), .val (.int j_)] [(.int (Int32.ofNat 16)), (.int j_)]) _
  obtain ⟨_, _, ⟨T5, L5, k5, n5⟩, -, X5, ⟨Lc5, hQ5, l5, y5, z5⟩, st5⟩ := Jvm.LawKit.callS X0 hx (y := (⟨"java/lang/String", "checkIndex", "(II)V"⟩ : MethodName)) hown (mvT hZ (hw _ (List.mem_of_getElem? (i := 30) rfl))) (mvT hZ (hw _ (List.mem_of_getElem? (i := 31) rfl))) (mvT hZ (hw _ (List.mem_of_getElem? (i := 5) rfl))) (mvT hZ (hw _ (List.mem_of_getElem? (i := 32) rfl))) (by decide) (backOf (W := 0) (own_r5 l Z a0 hw [] j_ (Int32.ofNat 16) fm h0 n0 Z0 hj.1 (own_jlt hj hjn) S2 hfm) hZ (hw _ (List.mem_of_getElem? (i := 32) rfl)) (hw _ (List.mem_of_getElem? (i := 5) rfl)) (by decide) (by decide)) (g := (mkF m 3 #[.val (.ref b_), .val (.int j_)] [(.int (Int32.ofNat 16)), (.int j_)])) rfl (by rw [hml]; rfl) (argsL := [(.int j_), (.int (Int32.ofNat 16))]) (rest := []) (lenOf own_pd_4 rfl) rfl (by show 2 * 0 + _ ≤ _; exact Nat.le_of_eq rfl) (hb hby own_d4_3) (fun _ _ => ⟨rfl, e0, (by decide : 0 + 0 ≤ _), (by decide : 0 + 0 ≤ _)⟩)
  dsimp only [Pt.U, Pt.locs, Pt.cells, Pt.slots] at X5 l5 y5 z5 st5 hQ5
  subst l5 y5 z5
  obtain ⟨rfl, N5q, e5⟩ := hQ5
  have N5 := Fr.app N0 N5q
  refine own_by st5 ?_
  show own_Go p e below T5 (mkF m 6 #[.val (.ref b_), .val (.int j_)] []) _
  refine own_s_aloadN X5.here hx (hb hby own_d4_6) rfl rfl ?_
  refine own_s_iloadN X5.here hx (hb hby own_d4_7) rfl ?_
  refine own_by (fun tq_ kq_ => own_ldB X5 hx hZ e5 A_b_ (k := jn) (v := (.int (bs jn))) hj hjn rfl (g := (mkF m 8 #[.val (.ref b_), .val (.int j_)] [(.int j_), (.ref b_)])) rfl rfl (hb hby own_d4_8) tq_ kq_) ?_
  show own_Go p e below T5 (mkF m 9 #[.val (.ref b_), .val (.int j_)] [(.int (bs jn))]) _
  refine own_s_sipush X5.here hx (255 : Int32) (hb hby own_d4_9) rfl ?_
  refine own_s_iand X5.here hx (hb hby own_d4_12) ?_
  refine own_s_i2c X5.here hx (hb hby own_d4_13) ?_
  show own_Go p e below T5 (mkF m 14 #[.val (.ref b_), .val (.int j_)] [(.int (own_ch (bs jn)))]) _
  refine own_retC X5 hx hret hlk (hb hby own_d4_14) (own_narC _) (by decide) (by decide) ?_
  exact ⟨rfl, N5, e5⟩
theorem own_d3_0 : decode jdk_42_method_154_code 0 = .ok (.getstatic 38, 3) := by decide +kernel
theorem own_d3_3 : decode jdk_42_method_154_code 3 = .ok (.ifCond .eq 14, 3) := by decide +kernel
theorem own_d3_6 : decode jdk_42_method_154_code 6 = .ok (.aload_n 0, 1) := by decide +kernel
theorem own_d3_7 : decode jdk_42_method_154_code 7 = .ok (.getfield 15, 3) := by decide +kernel
theorem own_d3_10 : decode jdk_42_method_154_code 10 = .ok (.ifCond .ne 7, 3) := by decide +kernel
theorem own_d3_13 : decode jdk_42_method_154_code 13 = .ok (.iconst 1, 1) := by decide +kernel
theorem own_d3_14 : decode jdk_42_method_154_code 14 = .ok (.goto 4, 3) := by decide +kernel
theorem own_d3_17 : decode jdk_42_method_154_code 17 = .ok (.iconst 0, 1) := by decide +kernel
theorem own_d3_18 : decode jdk_42_method_154_code 18 = .ok (.ireturn, 1) := by decide +kernel
theorem own_ef3 (m : MethodId) (this : Addr) : entryFrame m #[(.ref this)] 1 = mkF m 0 #[.val (.ref this)] [] := by first | (simp [entryFrame, mkF, argsToLocals, Value.category]; done) | rfl
def own_q_own_r3 (Z : State) (this : Addr) (zc : Int32) (h0 : Heap) (n0 : Nat) (v : Option Value) (h : Heap) (L : List Loc) : Prop := v = some (.int (1 : Int32)) ∧ Fr n0 L ∧ h = h0
set_option maxRecDepth 65536 in
set_option maxHeartbeats 40000000 in
theorem own_r3 (l : Launch) (Z : State) (a0 : Array Value) (hw : ∀ d ∈ tables_1, d.before a0 Z = true) (ws : List Jvm.Cond) (this : Addr) (zc : Int32) (h0 : Heap) (n0 : Nat) (Z0 : n0 ≤ h0.size) (S1 : Sta Z h0 "java/lang/String" "COMPACT_STRINGS" "Z" (.int zc)) (hzc : ¬ zc = 0) (E_this : Exa Z h0 this "java/lang/String") (F_this_coder : Fld Z h0 this "java/lang/String" "coder" "B" (.int (0 : Int32))) :
    MetFree l (⟨"java/lang/String", "isLatin1", "()Z"⟩ : MethodName) (head1 (Jvm.Cond.code (⟨"java/lang/String", "isLatin1", "()Z"⟩ : MethodName) jdk_42_method_154_code 1 (some .boolean) :: ws) ({ frames := 0, cells := 0, slots := 0, locals := 0 } : Room)) (fun aq Uq => aq = #[(.ref this)] ∧ Z.Warmed39 Uq.vm ∧ Uq.heap = h0) (fun _ _ _ _ _ => True) (fun _ Uq oq Uq' => ∃ vq Lq, oq = .returned vq ∧ own_q_own_r3 Z this zc h0 n0 vq Uq'.heap Lq ∧ FrameEnd Uq oq Uq' Lq ({ frames := 0, cells := 0, slots := 0, locals := 0 } : Room).cells ({ frames := 0, cells := 0, slots := 0, locals := 0 } : Room).slots) := by
  refine MetFree.of_bodySF (plainFor_of_name own_pn_String) hisR ?_
  intro p e s m args below meth c T0 Bd hml0 hP hK
  obtain ⟨rfl, hZ, hh⟩ := hP
  have hx := Bd.exec
  have hby := Bd.bytes
  have hml : c.maxLocals = 1 := hml0
  have hown : s.vm.findClass "java/lang/String" = some m.cls := findClass_of_methodNamed Bd.named
  have hnm := (name_of_methodNamed Bd.named Bd.method).1
  have hret : meth.sig.returnType = (some .boolean) := Bd.returns
  have hlk : meth.locks = false := BodyLoose.notSynchronized Bd
  have X0 : Stand p l e ({ frames := 0, cells := 0, slots := 0, locals := 0 } : Room) s m #[(.ref this)] below meth c T0 [] 0 0 := Stand.of_body Bd
  have e0 : T0.heap = h0 := by rw [← hh, Bd.state]; rfl
  have N0 := Fr.nil n0
  refine own_start (own_ef3 m this) (Q := fun (v : Option Value) (h : Heap) (L : List Loc) => v = some (.int (1 : Int32)) ∧ Fr n0 L ∧ h = h0) (k := 0) (j := 0) ?_
  show own_Go p e below T0 (mkF m 0 #[.val (.ref this)] []) _
  obtain ⟨T6, X6, e6, st6⟩ := getS2 X0 hx hZ hown (host := "") (Or.inl (hw _ (List.mem_of_getElem? (i := 23) rfl))) Via.refl e0 S1 (g := (mkF m 0 #[.val (.ref this)] [])) rfl (hb hby own_d3_0)
  refine own_by st6 ?_
  show own_Go p e below T6 (mkF m 3 #[.val (.ref this)] [(.int zc)]) _
  refine own_s_ifNo X6.here hx (hb hby own_d3_3) (Jvm.Free.XT.i0_eq_f hzc) ?_
  refine own_s_aloadN X6.here hx (hb hby own_d3_6) rfl rfl ?_
  obtain ⟨T7, X7, e7, st7⟩ := getF X6 hx hZ hown (host := "") (Or.inl (hw _ (List.mem_of_getElem? (i := 24) rfl))) Via.refl e6 F_this_coder (g := (mkF m 7 #[.val (.ref this)] [(.ref this)])) rfl rfl (hb hby own_d3_7)
  refine own_by st7 ?_
  show own_Go p e below T7 (mkF m 10 #[.val (.ref this)] [(.int (0 : Int32))]) _
  refine own_s_ifNo X7.here hx (hb hby own_d3_10) (Jvm.Free.XT.i0_ne_f ((by decide))) ?_
  refine own_s_iconst X7.here hx (1 : Int32) (hb hby own_d3_13) rfl ?_
  show own_Go p e below T7 (mkF m 14 #[.val (.ref this)] [(.int (1 : Int32))]) _
  refine own_s_goto X7.here hx 18 (hb hby own_d3_14) (by decide) (by decide) ?_
  refine own_retZ X7 hx hret hlk (hb hby own_d3_18) rfl (by decide) (by decide) ?_
  exact ⟨rfl, N0, e7⟩
theorem own_d2_0 : decode jdk_42_method_56_code 0 = .ok (.aload_n 0, 1) := by decide +kernel
theorem own_d2_1 : decode jdk_42_method_56_code 1 = .ok (.invokevirtual 492, 3) := by decide +kernel
theorem own_d2_4 : decode jdk_42_method_56_code 4 = .ok (.ifCond .eq 12, 3) := by decide +kernel
theorem own_d2_7 : decode jdk_42_method_56_code 7 = .ok (.aload_n 0, 1) := by decide +kernel
theorem own_d2_8 : decode jdk_42_method_56_code 8 = .ok (.getfield 9, 3) := by decide +kernel
theorem own_d2_11 : decode jdk_42_method_56_code 11 = .ok (.iload_n 1, 1) := by decide +kernel
theorem own_d2_12 : decode jdk_42_method_56_code 12 = .ok (.invokestatic 495, 3) := by decide +kernel
theorem own_d2_15 : decode jdk_42_method_56_code 15 = .ok (.ireturn, 1) := by decide +kernel
theorem own_d2_16 : decode jdk_42_method_56_code 16 = .ok (.aload_n 0, 1) := by decide +kernel
theorem own_d2_17 : decode jdk_42_method_56_code 17 = .ok (.getfield 9, 3) := by decide +kernel
theorem own_d2_20 : decode jdk_42_method_56_code 20 = .ok (.iload_n 1, 1) := by decide +kernel
theorem own_d2_21 : decode jdk_42_method_56_code 21 = .ok (.invokestatic 498, 3) := by decide +kernel
theorem own_d2_24 : decode jdk_42_method_56_code 24 = .ok (.ireturn, 1) := by decide +kernel
theorem own_ef2 (m : MethodId) (this : Addr) (j_ : Int32) : entryFrame m #[(.ref this), (.int j_)] 2 = mkF m 0 #[.val (.ref this), .val (.int j_)] [] := by first | (simp [entryFrame, mkF, argsToLocals, Value.category]; done) | rfl
theorem own_pd_2 : parseMethodDescriptor "()Z" = some ⟨[], some .boolean⟩ := by decide +kernel
theorem own_pd_3 : parseMethodDescriptor "([BI)C" = some ⟨[(.array .byte), .int], some .char⟩ := by decide +kernel
def own_q_own_r2 (Z : State) (this : Addr) (j_ : Int32) (bA : Addr) (bs : Nat → Int32) (jn : Nat) (zc : Int32) (fm : Value) (h0 : Heap) (n0 : Nat) (v : Option Value) (h : Heap) (L : List Loc) : Prop := v = some (.int (own_ch (bs jn))) ∧ Fr n0 L ∧ h = h0
set_option maxRecDepth 65536 in
set_option maxHeartbeats 40000000 in
theorem own_r2 (l : Launch) (Z : State) (a0 : Array Value) (hw : ∀ d ∈ tables_1, d.before a0 Z = true) (ws : List Jvm.Cond) (this : Addr) (j_ : Int32) (bA : Addr) (bs : Nat → Int32) (jn : Nat) (zc : Int32) (fm : Value) (h0 : Heap) (n0 : Nat) (Z0 : n0 ≤ h0.size) (hj : own_At j_ jn) (hjn : jn < 16) (S1 : Sta Z h0 "java/lang/String" "COMPACT_STRINGS" "Z" (.int zc)) (hzc : ¬ zc = 0) (S2 : Sta Z h0 "jdk/internal/util/Preconditions" "SIOOBE_FORMATTER" "Ljava/util/function/BiFunction;" fm) (hfm : fm.isRef = true) (E_this : Exa Z h0 this "java/lang/String") (F_this_coder : Fld Z h0 this "java/lang/String" "coder" "B" (.int (0 : Int32))) (F_this_value : Fld Z h0 this "java/lang/String" "value" "[B" (.ref bA)) (A_bA : own_Av Z h0 bA .byte 16 (fun i => .int (bs i))) :
    MetFree l (⟨"java/lang/String", "charAt", "(I)C"⟩ : MethodName) (head1 (Jvm.Cond.code (⟨"java/lang/String", "charAt", "(I)C"⟩ : MethodName) jdk_42_method_56_code 2 (some .char) :: ws) ({ frames := 3, cells := 0, slots := 0, locals := 40 } : Room)) (fun aq Uq => aq = #[(.ref this), (.int j_)] ∧ Z.Warmed39 Uq.vm ∧ Uq.heap = h0) (fun _ _ _ _ _ => True) (fun _ Uq oq Uq' => ∃ vq Lq, oq = .returned vq ∧ own_q_own_r2 Z this j_ bA bs jn zc fm h0 n0 vq Uq'.heap Lq ∧ FrameEnd Uq oq Uq' Lq ({ frames := 3, cells := 0, slots := 0, locals := 40 } : Room).cells ({ frames := 3, cells := 0, slots := 0, locals := 40 } : Room).slots) := by
  refine MetFree.of_bodySF (plainFor_of_name own_pn_String) hisR ?_
  intro p e s m args below meth c T0 Bd hml0 hP hK
  obtain ⟨rfl, hZ, hh⟩ := hP
  have hx := Bd.exec
  have hby := Bd.bytes
  have hml : c.maxLocals = 2 := hml0
  have hown : s.vm.findClass "java/lang/String" = some m.cls := findClass_of_methodNamed Bd.named
  have hnm := (name_of_methodNamed Bd.named Bd.method).1
  have hret : meth.sig.returnType = (some .char) := Bd.returns
  have hlk : meth.locks = false := BodyLoose.notSynchronized Bd
  have X0 : Stand p l e ({ frames := 3, cells := 0, slots := 0, locals := 40 } : Room) s m #[(.ref this), (.int j_)] below meth c T0 [] 0 0 := Stand.of_body Bd
  have e0 : T0.heap = h0 := by rw [← hh, Bd.state]; rfl
  have N0 := Fr.nil n0
  refine own_start (own_ef2 m this j_) (Q := fun (v : Option Value) (h : Heap) (L : List Loc) => v = some (.int (own_ch (bs jn))) ∧ Fr n0 L ∧ h = h0) (k := 0) (j := 0) ?_
  show own_Go p e below T0 (mkF m 0 #[.val (.ref this), .val (.int j_)] []) _
  refine own_s_aloadN X0.here hx (hb hby own_d2_0) rfl rfl ?_
  obtain ⟨cq8, kq8, q8a, q8b, q8c⟩ := isOf hZ e0 E_this
  obtain ⟨_, _, ⟨T8, L8, k8, n8⟩, -, X8, ⟨Lc8, hQ8, l8, y8, z8⟩, st8⟩ := X0.virtualBack hx (y := (⟨"java/lang/String", "isLatin1", "()Z"⟩ : MethodName)) (z := (⟨"java/lang/String", "isLatin1", "()Z"⟩ : MethodName)) hown (mvT hZ (hw _ (List.mem_of_getElem? (i := 18) rfl))) (mvT hZ (hw _ (List.mem_of_getElem? (i := 19) rfl))) (notFace_of_selects (args := #[]) (mvT hZ (hw _ (List.mem_of_getElem? (i := 21) rfl)))) (mvT hZ (hw _ (List.mem_of_getElem? (i := 21) rfl))) (mvT hZ (hw _ (List.mem_of_getElem? (i := 20) rfl))) (by decide) (backOf (W := 0) (own_r3 l Z a0 hw [] this zc h0 n0 Z0 S1 hzc E_this F_this_coder) hZ (hw _ (List.mem_of_getElem? (i := 22) rfl)) (hw _ (List.mem_of_getElem? (i := 5) rfl)) (by decide) (by decide)) q8a q8c (g := (mkF m 1 #[.val (.ref this), .val (.int j_)] [(.ref this)])) rfl (by rw [hml]; rfl) (Steps.refl _) (argsL := []) (rest := []) (lenOf own_pd_2 rfl) rfl (by show 2 * 0 + _ ≤ _; exact Nat.le_of_eq rfl) (hb hby own_d2_1) (fun _ _ => ⟨rfl, e0, (by decide : 0 + 0 ≤ _), (by decide : 0 + 0 ≤ _)⟩)
  dsimp only [Pt.U, Pt.locs, Pt.cells, Pt.slots] at X8 l8 y8 z8 st8 hQ8
  subst l8 y8 z8
  obtain ⟨rfl, N8q, e8⟩ := hQ8
  have N8 := Fr.app N0 N8q
  refine own_by (fun t k => st8.trans k) ?_
  show own_Go p e below T8 (mkF m 4 #[.val (.ref this), .val (.int j_)] [(.int (1 : Int32))]) _
  refine own_s_ifNo X8.here hx (hb hby own_d2_4) (Jvm.Free.XT.i0_eq_f ((by decide))) ?_
  refine own_s_aloadN X8.here hx (hb hby own_d2_7) rfl rfl ?_
  obtain ⟨T9, X9, e9, st9⟩ := getF X8 hx hZ hown (host := "") (Or.inl (hw _ (List.mem_of_getElem? (i := 25) rfl))) Via.refl e8 F_this_value (g := (mkF m 8 #[.val (.ref this), .val (.int j_)] [(.ref this)])) rfl rfl (hb hby own_d2_8)
  refine own_by st9 ?_
  show own_Go p e below T9 (mkF m 11 #[.val (.ref this), .val (.int j_)] [(.ref bA)]) _
  refine own_s_iloadN X9.here hx (hb hby own_d2_11) rfl ?_
  obtain ⟨_, _, ⟨T10, L10, k10, n10⟩, -, X10, ⟨Lc10, hQ10, l10, y10, z10⟩, st10⟩ := Jvm.LawKit.callS X9 hx (y := (⟨"java/lang/StringLatin1", "charAt", "([BI)C"⟩ : MethodName)) hown (mvT hZ (hw _ (List.mem_of_getElem? (i := 26) rfl))) (mvT hZ (hw _ (List.mem_of_getElem? (i := 27) rfl))) (mvT hZ (hw _ (List.mem_of_getElem? (i := 28) rfl))) (mvT hZ (hw _ (List.mem_of_getElem? (i := 29) rfl))) (by decide) (backOf (W := 0) (own_r4 l Z a0 hw [] bA j_ bs jn fm h0 n0 Z0 hj hjn S2 hfm A_bA) hZ (hw _ (List.mem_of_getElem? (i := 29) rfl)) (hw _ (List.mem_of_getElem? (i := 28) rfl)) (by decide) (by decide)) (g := (mkF m 12 #[.val (.ref this), .val (.int j_)] [(.int j_), (.ref bA)])) rfl (by rw [hml]; rfl) (argsL := [(.ref bA), (.int j_)]) (rest := []) (lenOf own_pd_3 rfl) rfl (by show 2 * 0 + _ ≤ _; exact Nat.le_of_eq rfl) (hb hby own_d2_12) (fun _ _ => ⟨rfl, e9, (by decide : 0 + 0 ≤ _), (by decide : 0 + 0 ≤ _)⟩)
  dsimp only [Pt.U, Pt.locs, Pt.cells, Pt.slots] at X10 l10 y10 z10 st10 hQ10
  subst l10 y10 z10
  obtain ⟨rfl, N10q, e10⟩ := hQ10
  have N10 := Fr.app N8 N10q
  refine own_by st10 ?_
  show own_Go p e below T10 (mkF m 15 #[.val (.ref this), .val (.int j_)] [(.int (own_ch (bs jn)))]) _
  refine own_retC X10 hx hret hlk (hb hby own_d2_15) (own_narC _) (by decide) (by decide) ?_
  exact ⟨rfl, N10, e10⟩
theorem own_h1F : ∀ i : Fin 16, own_f7 (own_ch (own_lo i.val)) = Int32.ofNat i.val ∧ own_f7 (own_ch (own_up i.val)) = Int32.ofNat i.val := by decide +kernel
theorem own_hr (c : Int32) : own_f7 c = -1 ∨ (48 ≤ c.toInt ∧ c.toInt ≤ 102) := by
  unfold own_f7
  simp only [Int32.lt_iff_toInt_lt, Int32.reduceToInt]
  repeat' split
  all_goals first | (left; rfl) | (right; omega)
theorem own_h2F : ∀ i : Fin 103, 48 ≤ i.val → own_f7 (Int32.ofNat i.val) = -1 ∨ ∃ r : Fin 16, own_f7 (Int32.ofNat i.val) = Int32.ofNat r.val ∧ (Int32.ofNat i.val = own_ch (own_lo r.val) ∨ Int32.ofNat i.val = own_ch (own_up r.val)) := by decide +kernel
theorem own_h2 (c : Int32) : own_f7 c = -1 ∨ ∃ r : Nat, r < 16 ∧ own_f7 c = Int32.ofNat r ∧ (c = own_ch (own_lo r) ∨ c = own_ch (own_up r)) := by
  rcases own_hr c with h | ⟨h1, h2⟩
  · exact Or.inl h
  · have e : c = Int32.ofNat c.toInt.toNat := by
      apply Int32.toInt_inj.mp; rw [own_toI (by omega)]; omega
    have q := own_h2F ⟨c.toInt.toNat, by omega⟩ (by show 48 ≤ c.toInt.toNat; omega)
    rw [show ((⟨c.toInt.toNat, by omega⟩ : Fin 103).val) = c.toInt.toNat from rfl, ← e] at q
    rcases q with q | ⟨r, q1, q2⟩
    · exact Or.inl q
    · exact Or.inr ⟨r.val, r.isLt, q1, q2⟩
theorem own_r16 : ∀ r : Fin 16, ¬ (Int32.ofNat r.val < (-1 : Int32)) ∧ ¬ ((15 : Int32) < Int32.ofNat r.val) ∧ ¬ (Int32.ofNat r.val < 0) := by decide +kernel
theorem own_nm {dn : Nat} (h : dn < 16) : ¬ Int32.ofNat dn = (-1 : Int32) := (show ∀ i : Fin 16, ¬ Int32.ofNat i.val = (-1 : Int32) by decide +kernel) ⟨dn, h⟩
theorem own_d1_0 : decode method_3_code 0 = .ok (.ldc 13, 2) := by decide +kernel
theorem own_d1_2 : decode method_3_code 2 = .ok (.astore_n 2, 1) := by decide +kernel
theorem own_d1_3 : decode method_3_code 3 = .ok (.ldc 15, 2) := by decide +kernel
theorem own_d1_5 : decode method_3_code 5 = .ok (.astore_n 3, 1) := by decide +kernel
theorem own_d1_6 : decode method_3_code 6 = .ok (.aload_n 2, 1) := by decide +kernel
theorem own_d1_7 : decode method_3_code 7 = .ok (.iload_n 1, 1) := by decide +kernel
theorem own_d1_8 : decode method_3_code 8 = .ok (.invokevirtual 17, 3) := by decide +kernel
theorem own_d1_11 : decode method_3_code 11 = .ok (.istore 4, 2) := by decide +kernel
theorem own_d1_13 : decode method_3_code 13 = .ok (.aload_n 3, 1) := by decide +kernel
theorem own_d1_14 : decode method_3_code 14 = .ok (.iload_n 1, 1) := by decide +kernel
theorem own_d1_15 : decode method_3_code 15 = .ok (.invokevirtual 17, 3) := by decide +kernel
theorem own_d1_18 : decode method_3_code 18 = .ok (.istore 5, 2) := by decide +kernel
theorem own_d1_20 : decode method_3_code 20 = .ok (.iload 4, 2) := by decide +kernel
theorem own_d1_22 : decode method_3_code 22 = .ok (.invokestatic 23, 3) := by decide +kernel
theorem own_d1_25 : decode method_3_code 25 = .ok (.iload_n 1, 1) := by decide +kernel
theorem own_d1_26 : decode method_3_code 26 = .ok (.if_icmp .eq 5, 3) := by decide +kernel
theorem own_d1_29 : decode method_3_code 29 = .ok (.iconst 0, 1) := by decide +kernel
theorem own_d1_30 : decode method_3_code 30 = .ok (.ireturn, 1) := by decide +kernel
theorem own_d1_31 : decode method_3_code 31 = .ok (.iload 5, 2) := by decide +kernel
theorem own_d1_33 : decode method_3_code 33 = .ok (.invokestatic 23, 3) := by decide +kernel
theorem own_d1_36 : decode method_3_code 36 = .ok (.iload_n 1, 1) := by decide +kernel
theorem own_d1_37 : decode method_3_code 37 = .ok (.if_icmp .eq 5, 3) := by decide +kernel
theorem own_d1_40 : decode method_3_code 40 = .ok (.iconst 0, 1) := by decide +kernel
theorem own_d1_41 : decode method_3_code 41 = .ok (.ireturn, 1) := by decide +kernel
theorem own_d1_42 : decode method_3_code 42 = .ok (.iload_n 0, 1) := by decide +kernel
theorem own_d1_43 : decode method_3_code 43 = .ok (.invokestatic 23, 3) := by decide +kernel
theorem own_d1_46 : decode method_3_code 46 = .ok (.istore 6, 2) := by decide +kernel
theorem own_d1_48 : decode method_3_code 48 = .ok (.iload 6, 2) := by decide +kernel
theorem own_d1_50 : decode method_3_code 50 = .ok (.iconst (-1), 1) := by decide +kernel
theorem own_d1_51 : decode method_3_code 51 = .ok (.if_icmp .lt 10, 3) := by decide +kernel
theorem own_d1_54 : decode method_3_code 54 = .ok (.iload 6, 2) := by decide +kernel
theorem own_d1_56 : decode method_3_code 56 = .ok (.bipush 15, 2) := by decide +kernel
theorem own_d1_58 : decode method_3_code 58 = .ok (.if_icmp .le 5, 3) := by decide +kernel
theorem own_d1_61 : decode method_3_code 61 = .ok (.iconst 0, 1) := by decide +kernel
theorem own_d1_62 : decode method_3_code 62 = .ok (.ireturn, 1) := by decide +kernel
theorem own_d1_63 : decode method_3_code 63 = .ok (.iload 6, 2) := by decide +kernel
theorem own_d1_65 : decode method_3_code 65 = .ok (.ifCond .lt 29, 3) := by decide +kernel
theorem own_d1_68 : decode method_3_code 68 = .ok (.iload_n 0, 1) := by decide +kernel
theorem own_d1_69 : decode method_3_code 69 = .ok (.aload_n 2, 1) := by decide +kernel
theorem own_d1_70 : decode method_3_code 70 = .ok (.iload 6, 2) := by decide +kernel
theorem own_d1_72 : decode method_3_code 72 = .ok (.invokevirtual 17, 3) := by decide +kernel
theorem own_d1_75 : decode method_3_code 75 = .ok (.if_icmp .eq 13, 3) := by decide +kernel
theorem own_d1_78 : decode method_3_code 78 = .ok (.iload_n 0, 1) := by decide +kernel
theorem own_d1_79 : decode method_3_code 79 = .ok (.aload_n 3, 1) := by decide +kernel
theorem own_d1_80 : decode method_3_code 80 = .ok (.iload 6, 2) := by decide +kernel
theorem own_d1_82 : decode method_3_code 82 = .ok (.invokevirtual 17, 3) := by decide +kernel
theorem own_d1_85 : decode method_3_code 85 = .ok (.if_icmp .ne 7, 3) := by decide +kernel
theorem own_d1_88 : decode method_3_code 88 = .ok (.iconst 1, 1) := by decide +kernel
theorem own_d1_89 : decode method_3_code 89 = .ok (.goto 4, 3) := by decide +kernel
theorem own_d1_92 : decode method_3_code 92 = .ok (.iconst 0, 1) := by decide +kernel
theorem own_d1_93 : decode method_3_code 93 = .ok (.ireturn, 1) := by decide +kernel
theorem own_d1_94 : decode method_3_code 94 = .ok (.iload_n 0, 1) := by decide +kernel
theorem own_d1_95 : decode method_3_code 95 = .ok (.iload 4, 2) := by decide +kernel
theorem own_d1_97 : decode method_3_code 97 = .ok (.if_icmp .eq 13, 3) := by decide +kernel
theorem own_d1_100 : decode method_3_code 100 = .ok (.iload_n 0, 1) := by decide +kernel
theorem own_d1_101 : decode method_3_code 101 = .ok (.iload 5, 2) := by decide +kernel
theorem own_d1_103 : decode method_3_code 103 = .ok (.if_icmp .eq 7, 3) := by decide +kernel
theorem own_d1_106 : decode method_3_code 106 = .ok (.iconst 1, 1) := by decide +kernel
theorem own_d1_107 : decode method_3_code 107 = .ok (.goto 4, 3) := by decide +kernel
theorem own_d1_110 : decode method_3_code 110 = .ok (.iconst 0, 1) := by decide +kernel
theorem own_d1_111 : decode method_3_code 111 = .ok (.ireturn, 1) := by decide +kernel
theorem own_pn_SyntaxHexValuePinLaw : plainName "com/example/ann_arbor/annarbor/http/wire/SyntaxHexValuePinLaw" = true := by first | (simp [plainName, overriddenIn]; done) | decide +kernel
theorem own_pd_1 : parseMethodDescriptor "(I)C" = some ⟨[.int], some .char⟩ := by decide +kernel
theorem own_pd_6 : parseMethodDescriptor "(I)I" = some ⟨[.int], some .int⟩ := by decide +kernel
set_option maxRecDepth 65536 in
set_option maxHeartbeats 40000000 in
theorem own_p6a {p : Program} {l : Launch} {e : Env} {s : State} {m : MethodId} {args : Array Value} {below : List Frame} {meth : Method} {c : Code} {Z : State} {a0 : Array Value} {n0 : Nat} (hx : p.tables.exec = Jvm.exec) (hZ : Z.Warmed39 s.vm) (hw : ∀ d ∈ tables_1, d.before a0 Z = true) (hby : c.code = method_3_code) (hml : c.maxLocals = 7) (hown : s.vm.findClass "com/example/ann_arbor/annarbor/http/wire/SyntaxHexValuePinLaw" = some m.cls) (hnm : meth.name = "check") (hret : meth.sig.returnType = (some .boolean)) (hlk : meth.locks = false) (c_ d_ : Int32) (dn : Nat) (a1 b1 a2 b2 : Addr) (zc : Int32) (fm : Value) {T0 : State} {locs : List Loc} {h0 : Heap} (X0 : Stand p l e ({ frames := 5, cells := 4, slots := 136, locals := 120 } : Room) s m args below meth c T0 locs 4 136) (e0 : T0.heap = h0) (N0 : Fr n0 locs) (Z0 : n0 ≤ h0.size) (hd : d_ = Int32.ofNat dn) (hdn : dn < 16) (S1 : Sta Z h0 "java/lang/String" "COMPACT_STRINGS" "Z" (.int zc)) (hzc : ¬ zc = 0) (S2 : Sta Z h0 "jdk/internal/util/Preconditions" "SIOOBE_FORMATTER" "Ljava/util/function/BiFunction;" fm) (hfm : fm.isRef = true) (E_a1 : Exa Z h0 a1 "java/lang/String") (F_a1_coder : Fld Z h0 a1 "java/lang/String" "coder" "B" (.int (0 : Int32))) (F_a1_value : Fld Z h0 a1 "java/lang/String" "value" "[B" (.ref b1)) (A_b1 : own_Av Z h0 b1 .byte 16 (fun i => .int (own_lo i))) (E_a2 : Exa Z h0 a2 "java/lang/String") (F_a2_coder : Fld Z h0 a2 "java/lang/String" "coder" "B" (.int (0 : Int32))) (F_a2_value : Fld Z h0 a2 "java/lang/String" "value" "[B" (.ref b2)) (A_b2 : own_Av Z h0 b2 .byte 16 (fun i => .int (own_up i))) :
    own_Go p e below T0 (mkF m 6 #[.val (.int c_), .val (.int d_), .val (.ref a1), .val (.ref a2), .unset, .unset, .unset] []) (own_Fin s (fun (v : Option Value) (h : Heap) (L : List Loc) => v = some (.int (1 : Int32)) ∧ Fr n0 L ∧ h = h0) 4 136) := by
  show own_Go p e below T0 (mkF m 6 #[.val (.int c_), .val (.int d_), .val (.ref a1), .val (.ref a2), .unset, .unset, .unset] []) _
  subst hd
  have hl := own_h1F ⟨dn, hdn⟩
  show own_Go p e below T0 (mkF m 6 #[.val (.int c_), .val (.int (Int32.ofNat dn)), .val (.ref a1), .val (.ref a2), .unset, .unset, .unset] []) _
  refine own_s_aloadN X0.here hx (hb hby own_d1_6) rfl rfl ?_
  refine own_s_iloadN X0.here hx (hb hby own_d1_7) rfl ?_
  obtain ⟨cq11, kq11, q11a, q11b, q11c⟩ := isOf hZ e0 E_a1
  obtain ⟨_, _, ⟨T11, L11, k11, n11⟩, -, X11, ⟨Lc11, hQ11, l11, y11, z11⟩, st11⟩ := X0.virtualBack hx (y := (⟨"java/lang/String", "charAt", "(I)C"⟩ : MethodName)) (z := (⟨"java/lang/String", "charAt", "(I)C"⟩ : MethodName)) hown (mvT hZ (hw _ (List.mem_of_getElem? (i := 13) rfl))) (mvT hZ (hw _ (List.mem_of_getElem? (i := 14) rfl))) (notFace_of_selects (args := #[]) (mvT hZ (hw _ (List.mem_of_getElem? (i := 16) rfl)))) (mvT hZ (hw _ (List.mem_of_getElem? (i := 16) rfl))) (mvT hZ (hw _ (List.mem_of_getElem? (i := 15) rfl))) (by decide) (backOf (W := 0) (own_r2 l Z a0 hw [] a1 (Int32.ofNat dn) b1 own_lo dn zc fm h0 n0 Z0 (own_ix (by omega)) hdn S1 hzc S2 hfm E_a1 F_a1_coder F_a1_value A_b1) hZ (hw _ (List.mem_of_getElem? (i := 17) rfl)) (hw _ (List.mem_of_getElem? (i := 5) rfl)) (by decide) (by decide)) q11a q11c (g := (mkF m 8 #[.val (.int c_), .val (.int (Int32.ofNat dn)), .val (.ref a1), .val (.ref a2), .unset, .unset, .unset] [(.int (Int32.ofNat dn)), (.ref a1)])) rfl (by rw [hml]; rfl) (Steps.refl _) (argsL := [(.int (Int32.ofNat dn))]) (rest := []) (lenOf own_pd_1 rfl) rfl (by show 2 * 0 + _ ≤ _; exact Nat.le_of_eq rfl) (hb hby own_d1_8) (fun _ _ => ⟨rfl, e0, (by decide : 4 + 0 ≤ _), (by decide : 136 + 0 ≤ _)⟩)
  dsimp only [Pt.U, Pt.locs, Pt.cells, Pt.slots] at X11 l11 y11 z11 st11 hQ11
  subst l11 y11 z11
  obtain ⟨rfl, N11q, e11⟩ := hQ11
  have N11 := Fr.app N0 N11q
  refine own_by (fun t k => st11.trans k) ?_
  show own_Go p e below T11 (mkF m 11 #[.val (.int c_), .val (.int (Int32.ofNat dn)), .val (.ref a1), .val (.ref a2), .unset, .unset, .unset] [(.int (own_ch (own_lo dn)))]) _
  refine own_s_istore X11.here hx #[.val (.int c_), .val (.int (Int32.ofNat dn)), .val (.ref a1), .val (.ref a2), .val (.int (own_ch (own_lo dn))), .unset, .unset] (hb hby own_d1_11) rfl ?_
  refine own_s_aloadN X11.here hx (hb hby own_d1_13) rfl rfl ?_
  refine own_s_iloadN X11.here hx (hb hby own_d1_14) rfl ?_
  obtain ⟨cq12, kq12, q12a, q12b, q12c⟩ := isOf hZ e11 E_a2
  obtain ⟨_, _, ⟨T12, L12, k12, n12⟩, -, X12, ⟨Lc12, hQ12, l12, y12, z12⟩, st12⟩ := X11.virtualBack hx (y := (⟨"java/lang/String", "charAt", "(I)C"⟩ : MethodName)) (z := (⟨"java/lang/String", "charAt", "(I)C"⟩ : MethodName)) hown (mvT hZ (hw _ (List.mem_of_getElem? (i := 13) rfl))) (mvT hZ (hw _ (List.mem_of_getElem? (i := 14) rfl))) (notFace_of_selects (args := #[]) (mvT hZ (hw _ (List.mem_of_getElem? (i := 16) rfl)))) (mvT hZ (hw _ (List.mem_of_getElem? (i := 16) rfl))) (mvT hZ (hw _ (List.mem_of_getElem? (i := 15) rfl))) (by decide) (backOf (W := 0) (own_r2 l Z a0 hw [] a2 (Int32.ofNat dn) b2 own_up dn zc fm h0 n0 Z0 (own_ix (by omega)) hdn S1 hzc S2 hfm E_a2 F_a2_coder F_a2_value A_b2) hZ (hw _ (List.mem_of_getElem? (i := 17) rfl)) (hw _ (List.mem_of_getElem? (i := 5) rfl)) (by decide) (by decide)) q12a q12c (g := (mkF m 15 #[.val (.int c_), .val (.int (Int32.ofNat dn)), .val (.ref a1), .val (.ref a2), .val (.int (own_ch (own_lo dn))), .unset, .unset] [(.int (Int32.ofNat dn)), (.ref a2)])) rfl (by rw [hml]; rfl) (Steps.refl _) (argsL := [(.int (Int32.ofNat dn))]) (rest := []) (lenOf own_pd_1 rfl) rfl (by show 2 * 0 + _ ≤ _; exact Nat.le_of_eq rfl) (hb hby own_d1_15) (fun _ _ => ⟨rfl, e11, (by decide : 4 + 0 ≤ _), (by decide : 136 + 0 ≤ _)⟩)
  dsimp only [Pt.U, Pt.locs, Pt.cells, Pt.slots] at X12 l12 y12 z12 st12 hQ12
  subst l12 y12 z12
  obtain ⟨rfl, N12q, e12⟩ := hQ12
  have N12 := Fr.app N11 N12q
  refine own_by (fun t k => st12.trans k) ?_
  show own_Go p e below T12 (mkF m 18 #[.val (.int c_), .val (.int (Int32.ofNat dn)), .val (.ref a1), .val (.ref a2), .val (.int (own_ch (own_lo dn))), .unset, .unset] [(.int (own_ch (own_up dn)))]) _
  refine own_s_istore X12.here hx #[.val (.int c_), .val (.int (Int32.ofNat dn)), .val (.ref a1), .val (.ref a2), .val (.int (own_ch (own_lo dn))), .val (.int (own_ch (own_up dn))), .unset] (hb hby own_d1_18) rfl ?_
  refine own_s_iload X12.here hx (hb hby own_d1_20) rfl ?_
  obtain ⟨_, _, ⟨T13, L13, k13, n13⟩, -, X13, ⟨Lc13, hQ13, l13, y13, z13⟩, st13⟩ := Jvm.LawKit.callS X12 hx (y := (⟨"com/example/ann_arbor/annarbor/http/wire/Syntax", "hexValue", "(I)I"⟩ : MethodName)) hown (mvT hZ (hw _ (List.mem_of_getElem? (i := 38) rfl))) (mvT hZ (hw _ (List.mem_of_getElem? (i := 39) rfl))) (mvT hZ (hw _ (List.mem_of_getElem? (i := 40) rfl))) (mvT hZ (hw _ (List.mem_of_getElem? (i := 41) rfl))) (by decide) (backOf (W := 0) (own_r7 l Z a0 hw [] (own_ch (own_lo dn))  h0 n0 Z0 ) hZ (hw _ (List.mem_of_getElem? (i := 41) rfl)) (hw _ (List.mem_of_getElem? (i := 40) rfl)) (by decide) (by decide)) (g := (mkF m 22 #[.val (.int c_), .val (.int (Int32.ofNat dn)), .val (.ref a1), .val (.ref a2), .val (.int (own_ch (own_lo dn))), .val (.int (own_ch (own_up dn))), .unset] [(.int (own_ch (own_lo dn)))])) rfl (by rw [hml]; rfl) (argsL := [(.int (own_ch (own_lo dn)))]) (rest := []) (lenOf own_pd_6 rfl) rfl (by show 2 * 0 + _ ≤ _; exact Nat.le_of_eq rfl) (hb hby own_d1_22) (fun _ _ => ⟨rfl, e12, (by decide : 4 + 0 ≤ _), (by decide : 136 + 0 ≤ _)⟩)
  dsimp only [Pt.U, Pt.locs, Pt.cells, Pt.slots] at X13 l13 y13 z13 st13 hQ13
  subst l13 y13 z13
  obtain ⟨rfl, N13q, e13⟩ := hQ13
  have N13 := Fr.app N12 N13q
  refine own_by st13 ?_
  show own_Go p e below T13 (mkF m 25 #[.val (.int c_), .val (.int (Int32.ofNat dn)), .val (.ref a1), .val (.ref a2), .val (.int (own_ch (own_lo dn))), .val (.int (own_ch (own_up dn))), .unset] [(.int (own_f7 (own_ch (own_lo dn))))]) _
  refine own_s_iloadN X13.here hx (hb hby own_d1_25) rfl ?_
  show own_Go p e below T13 (mkF m 26 #[.val (.int c_), .val (.int (Int32.ofNat dn)), .val (.ref a1), .val (.ref a2), .val (.int (own_ch (own_lo dn))), .val (.int (own_ch (own_up dn))), .unset] [(.int (Int32.ofNat dn)), (.int (own_f7 (own_ch (own_lo dn))))]) _
  refine own_s_icmpYes X13.here hx 31 (hb hby own_d1_26) (Jvm.Free.XT.ii_eq_t hl.1) (by decide) (by decide) ?_
  refine own_s_iload X13.here hx (hb hby own_d1_31) rfl ?_
  obtain ⟨_, _, ⟨T14, L14, k14, n14⟩, -, X14, ⟨Lc14, hQ14, l14, y14, z14⟩, st14⟩ := Jvm.LawKit.callS X13 hx (y := (⟨"com/example/ann_arbor/annarbor/http/wire/Syntax", "hexValue", "(I)I"⟩ : MethodName)) hown (mvT hZ (hw _ (List.mem_of_getElem? (i := 38) rfl))) (mvT hZ (hw _ (List.mem_of_getElem? (i := 39) rfl))) (mvT hZ (hw _ (List.mem_of_getElem? (i := 40) rfl))) (mvT hZ (hw _ (List.mem_of_getElem? (i := 41) rfl))) (by decide) (backOf (W := 0) (own_r7 l Z a0 hw [] (own_ch (own_up dn))  h0 n0 Z0 ) hZ (hw _ (List.mem_of_getElem? (i := 41) rfl)) (hw _ (List.mem_of_getElem? (i := 40) rfl)) (by decide) (by decide)) (g := (mkF m 33 #[.val (.int c_), .val (.int (Int32.ofNat dn)), .val (.ref a1), .val (.ref a2), .val (.int (own_ch (own_lo dn))), .val (.int (own_ch (own_up dn))), .unset] [(.int (own_ch (own_up dn)))])) rfl (by rw [hml]; rfl) (argsL := [(.int (own_ch (own_up dn)))]) (rest := []) (lenOf own_pd_6 rfl) rfl (by show 2 * 0 + _ ≤ _; exact Nat.le_of_eq rfl) (hb hby own_d1_33) (fun _ _ => ⟨rfl, e13, (by decide : 4 + 0 ≤ _), (by decide : 136 + 0 ≤ _)⟩)
  dsimp only [Pt.U, Pt.locs, Pt.cells, Pt.slots] at X14 l14 y14 z14 st14 hQ14
  subst l14 y14 z14
  obtain ⟨rfl, N14q, e14⟩ := hQ14
  have N14 := Fr.app N13 N14q
  refine own_by st14 ?_
  show own_Go p e below T14 (mkF m 36 #[.val (.int c_), .val (.int (Int32.ofNat dn)), .val (.ref a1), .val (.ref a2), .val (.int (own_ch (own_lo dn))), .val (.int (own_ch (own_up dn))), .unset] [(.int (own_f7 (own_ch (own_up dn))))]) _
  refine own_s_iloadN X14.here hx (hb hby own_d1_36) rfl ?_
  show own_Go p e below T14 (mkF m 37 #[.val (.int c_), .val (.int (Int32.ofNat dn)), .val (.ref a1), .val (.ref a2), .val (.int (own_ch (own_lo dn))), .val (.int (own_ch (own_up dn))), .unset] [(.int (Int32.ofNat dn)), (.int (own_f7 (own_ch (own_up dn))))]) _
  refine own_s_icmpYes X14.here hx 42 (hb hby own_d1_37) (Jvm.Free.XT.ii_eq_t hl.2) (by decide) (by decide) ?_
  refine own_s_iloadN X14.here hx (hb hby own_d1_42) rfl ?_
  obtain ⟨_, _, ⟨T15, L15, k15, n15⟩, -, X15, ⟨Lc15, hQ15, l15, y15, z15⟩, st15⟩ := Jvm.LawKit.callS X14 hx (y := (⟨"com/example/ann_arbor/annarbor/http/wire/Syntax", "hexValue", "(I)I"⟩ : MethodName)) hown (mvT hZ (hw _ (List.mem_of_getElem? (i := 38) rfl))) (mvT hZ (hw _ (List.mem_of_getElem? (i := 39) rfl))) (mvT hZ (hw _ (List.mem_of_getElem? (i := 40) rfl))) (mvT hZ (hw _ (List.mem_of_getElem? (i := 41) rfl))) (by decide) (backOf (W := 0) (own_r7 l Z a0 hw [] c_  h0 n0 Z0 ) hZ (hw _ (List.mem_of_getElem? (i := 41) rfl)) (hw _ (List.mem_of_getElem? (i := 40) rfl)) (by decide) (by decide)) (g := (mkF m 43 #[.val (.int c_), .val (.int (Int32.ofNat dn)), .val (.ref a1), .val (.ref a2), .val (.int (own_ch (own_lo dn))), .val (.int (own_ch (own_up dn))), .unset] [(.int c_)])) rfl (by rw [hml]; rfl) (argsL := [(.int c_)]) (rest := []) (lenOf own_pd_6 rfl) rfl (by show 2 * 0 + _ ≤ _; exact Nat.le_of_eq rfl) (hb hby own_d1_43) (fun _ _ => ⟨rfl, e14, (by decide : 4 + 0 ≤ _), (by decide : 136 + 0 ≤ _)⟩)
  dsimp only [Pt.U, Pt.locs, Pt.cells, Pt.slots] at X15 l15 y15 z15 st15 hQ15
  subst l15 y15 z15
  obtain ⟨rfl, N15q, e15⟩ := hQ15
  have N15 := Fr.app N14 N15q
  refine own_by st15 ?_
  show own_Go p e below T15 (mkF m 46 #[.val (.int c_), .val (.int (Int32.ofNat dn)), .val (.ref a1), .val (.ref a2), .val (.int (own_ch (own_lo dn))), .val (.int (own_ch (own_up dn))), .unset] [(.int (own_f7 c_))]) _
  rcases own_h2 c_ with hm | ⟨rn, hrn, hr, hor⟩
  ·
    have hr0 := hm
    rw [hm]
    show own_Go p e below T15 (mkF m 46 #[.val (.int c_), .val (.int (Int32.ofNat dn)), .val (.ref a1), .val (.ref a2), .val (.int (own_ch (own_lo dn))), .val (.int (own_ch (own_up dn))), .unset] [(.int (-1 : Int32))]) _
    refine own_s_istore X15.here hx #[.val (.int c_), .val (.int (Int32.ofNat dn)), .val (.ref a1), .val (.ref a2), .val (.int (own_ch (own_lo dn))), .val (.int (own_ch (own_up dn))), .val (.int (-1 : Int32))] (hb hby own_d1_46) rfl ?_
    refine own_s_iload X15.here hx (hb hby own_d1_48) rfl ?_
    refine own_s_iconst X15.here hx (-1 : Int32) (hb hby own_d1_50) rfl ?_
    refine own_s_icmpNo X15.here hx (hb hby own_d1_51) (Jvm.Free.XT.ii_lt_f ((by decide))) ?_
    refine own_s_iload X15.here hx (hb hby own_d1_54) rfl ?_
    refine own_s_bipush X15.here hx (15 : Int32) (hb hby own_d1_56) rfl ?_
    show own_Go p e below T15 (mkF m 58 #[.val (.int c_), .val (.int (Int32.ofNat dn)), .val (.ref a1), .val (.ref a2), .val (.int (own_ch (own_lo dn))), .val (.int (own_ch (own_up dn))), .val (.int (-1 : Int32))] [(.int (15 : Int32)), (.int (-1 : Int32))]) _
    refine own_s_icmpYes X15.here hx 63 (hb hby own_d1_58) (Jvm.Free.XT.ii_le_t ((by decide))) (by decide) (by decide) ?_
    refine own_s_iload X15.here hx (hb hby own_d1_63) rfl ?_
    show own_Go p e below T15 (mkF m 65 #[.val (.int c_), .val (.int (Int32.ofNat dn)), .val (.ref a1), .val (.ref a2), .val (.int (own_ch (own_lo dn))), .val (.int (own_ch (own_up dn))), .val (.int (-1 : Int32))] [(.int (-1 : Int32))]) _
    refine own_s_ifYes X15.here hx 94 (hb hby own_d1_65) (Jvm.Free.XT.i0_lt_t ((by decide))) (by decide) (by decide) ?_
    refine own_s_iloadN X15.here hx (hb hby own_d1_94) rfl ?_
    refine own_s_iload X15.here hx (hb hby own_d1_95) rfl ?_
    refine own_s_icmpNo X15.here hx (hb hby own_d1_97) (Jvm.Free.XT.ii_eq_f ((fun q => by rw [q, hl.1] at hr0; exact absurd hr0 (own_nm hdn)))) ?_
    refine own_s_iloadN X15.here hx (hb hby own_d1_100) rfl ?_
    refine own_s_iload X15.here hx (hb hby own_d1_101) rfl ?_
    refine own_s_icmpNo X15.here hx (hb hby own_d1_103) (Jvm.Free.XT.ii_eq_f ((fun q => by rw [q, hl.2] at hr0; exact absurd hr0 (own_nm hdn)))) ?_
    refine own_s_iconst X15.here hx (1 : Int32) (hb hby own_d1_106) rfl ?_
    show own_Go p e below T15 (mkF m 107 #[.val (.int c_), .val (.int (Int32.ofNat dn)), .val (.ref a1), .val (.ref a2), .val (.int (own_ch (own_lo dn))), .val (.int (own_ch (own_up dn))), .val (.int (-1 : Int32))] [(.int (1 : Int32))]) _
    refine own_s_goto X15.here hx 111 (hb hby own_d1_107) (by decide) (by decide) ?_
    refine own_retZ X15 hx hret hlk (hb hby own_d1_111) rfl (by decide) (by decide) ?_
    exact ⟨rfl, N15, e15⟩
  ·
    have hr0 := hr
    rw [hr]
    show own_Go p e below T15 (mkF m 46 #[.val (.int c_), .val (.int (Int32.ofNat dn)), .val (.ref a1), .val (.ref a2), .val (.int (own_ch (own_lo dn))), .val (.int (own_ch (own_up dn))), .unset] [(.int (Int32.ofNat rn))]) _
    have h16 := own_r16 ⟨rn, hrn⟩
    refine own_s_istore X15.here hx #[.val (.int c_), .val (.int (Int32.ofNat dn)), .val (.ref a1), .val (.ref a2), .val (.int (own_ch (own_lo dn))), .val (.int (own_ch (own_up dn))), .val (.int (Int32.ofNat rn))] (hb hby own_d1_46) rfl ?_
    refine own_s_iload X15.here hx (hb hby own_d1_48) rfl ?_
    refine own_s_iconst X15.here hx (-1 : Int32) (hb hby own_d1_50) rfl ?_
    refine own_s_icmpNo X15.here hx (hb hby own_d1_51) (Jvm.Free.XT.ii_lt_f h16.1) ?_
    refine own_s_iload X15.here hx (hb hby own_d1_54) rfl ?_
    refine own_s_bipush X15.here hx (15 : Int32) (hb hby own_d1_56) rfl ?_
    show own_Go p e below T15 (mkF m 58 #[.val (.int c_), .val (.int (Int32.ofNat dn)), .val (.ref a1), .val (.ref a2), .val (.int (own_ch (own_lo dn))), .val (.int (own_ch (own_up dn))), .val (.int (Int32.ofNat rn))] [(.int (15 : Int32)), (.int (Int32.ofNat rn))]) _
    refine own_s_icmpYes X15.here hx 63 (hb hby own_d1_58) (Jvm.Free.XT.ii_le_t h16.2.1) (by decide) (by decide) ?_
    refine own_s_iload X15.here hx (hb hby own_d1_63) rfl ?_
    refine own_s_ifNo X15.here hx (hb hby own_d1_65) (Jvm.Free.XT.i0_lt_f h16.2.2) ?_
    refine own_s_iloadN X15.here hx (hb hby own_d1_68) rfl ?_
    refine own_s_aloadN X15.here hx (hb hby own_d1_69) rfl rfl ?_
    refine own_s_iload X15.here hx (hb hby own_d1_70) rfl ?_
    obtain ⟨cq16, kq16, q16a, q16b, q16c⟩ := isOf hZ e15 E_a1
    obtain ⟨_, _, ⟨T16, L16, k16, n16⟩, -, X16, ⟨Lc16, hQ16, l16, y16, z16⟩, st16⟩ := X15.virtualBack hx (y := (⟨"java/lang/String", "charAt", "(I)C"⟩ : MethodName)) (z := (⟨"java/lang/String", "charAt", "(I)C"⟩ : MethodName)) hown (mvT hZ (hw _ (List.mem_of_getElem? (i := 13) rfl))) (mvT hZ (hw _ (List.mem_of_getElem? (i := 14) rfl))) (notFace_of_selects (args := #[]) (mvT hZ (hw _ (List.mem_of_getElem? (i := 16) rfl)))) (mvT hZ (hw _ (List.mem_of_getElem? (i := 16) rfl))) (mvT hZ (hw _ (List.mem_of_getElem? (i := 15) rfl))) (by decide) (backOf (W := 1) (own_r2 l Z a0 hw [] a1 (Int32.ofNat rn) b1 own_lo rn zc fm h0 n0 Z0 (own_ix (by omega)) hrn S1 hzc S2 hfm E_a1 F_a1_coder F_a1_value A_b1) hZ (hw _ (List.mem_of_getElem? (i := 17) rfl)) (hw _ (List.mem_of_getElem? (i := 5) rfl)) (by decide) (by decide)) q16a q16c (g := (mkF m 72 #[.val (.int c_), .val (.int (Int32.ofNat dn)), .val (.ref a1), .val (.ref a2), .val (.int (own_ch (own_lo dn))), .val (.int (own_ch (own_up dn))), .val (.int (Int32.ofNat rn))] [(.int (Int32.ofNat rn)), (.ref a1), (.int c_)])) rfl (by rw [hml]; rfl) (Steps.refl _) (argsL := [(.int (Int32.ofNat rn))]) (rest := [(.int c_)]) (lenOf own_pd_1 rfl) rfl (by show 2 * 0 + _ ≤ _; exact Nat.le_of_eq rfl) (hb hby own_d1_72) (fun _ _ => ⟨rfl, e15, (by decide : 4 + 0 ≤ _), (by decide : 136 + 0 ≤ _)⟩)
    dsimp only [Pt.U, Pt.locs, Pt.cells, Pt.slots] at X16 l16 y16 z16 st16 hQ16
    subst l16 y16 z16
    obtain ⟨rfl, N16q, e16⟩ := hQ16
    have N16 := Fr.app N15 N16q
    refine own_by (fun t k => st16.trans k) ?_
    show own_Go p e below T16 (mkF m 75 #[.val (.int c_), .val (.int (Int32.ofNat dn)), .val (.ref a1), .val (.ref a2), .val (.int (own_ch (own_lo dn))), .val (.int (own_ch (own_up dn))), .val (.int (Int32.ofNat rn))] [(.int (own_ch (own_lo rn))), (.int c_)]) _
    by_cases hc75 : c_ = (own_ch (own_lo rn))
    ·
      refine own_s_icmpYes X16.here hx 88 (hb hby own_d1_75) (Jvm.Free.XT.ii_eq_t hc75) (by decide) (by decide) ?_
      refine own_s_iconst X16.here hx (1 : Int32) (hb hby own_d1_88) rfl ?_
      show own_Go p e below T16 (mkF m 89 #[.val (.int c_), .val (.int (Int32.ofNat dn)), .val (.ref a1), .val (.ref a2), .val (.int (own_ch (own_lo dn))), .val (.int (own_ch (own_up dn))), .val (.int (Int32.ofNat rn))] [(.int (1 : Int32))]) _
      refine own_s_goto X16.here hx 93 (hb hby own_d1_89) (by decide) (by decide) ?_
      refine own_retZ X16 hx hret hlk (hb hby own_d1_93) rfl (by decide) (by decide) ?_
      exact ⟨rfl, N16, e16⟩
    ·
      refine own_s_icmpNo X16.here hx (hb hby own_d1_75) (Jvm.Free.XT.ii_eq_f hc75) ?_
      refine own_s_iloadN X16.here hx (hb hby own_d1_78) rfl ?_
      refine own_s_aloadN X16.here hx (hb hby own_d1_79) rfl rfl ?_
      refine own_s_iload X16.here hx (hb hby own_d1_80) rfl ?_
      obtain ⟨cq17, kq17, q17a, q17b, q17c⟩ := isOf hZ e16 E_a2
      obtain ⟨_, _, ⟨T17, L17, k17, n17⟩, -, X17, ⟨Lc17, hQ17, l17, y17, z17⟩, st17⟩ := X16.virtualBack hx (y := (⟨"java/lang/String", "charAt", "(I)C"⟩ : MethodName)) (z := (⟨"java/lang/String", "charAt", "(I)C"⟩ : MethodName)) hown (mvT hZ (hw _ (List.mem_of_getElem? (i := 13) rfl))) (mvT hZ (hw _ (List.mem_of_getElem? (i := 14) rfl))) (notFace_of_selects (args := #[]) (mvT hZ (hw _ (List.mem_of_getElem? (i := 16) rfl)))) (mvT hZ (hw _ (List.mem_of_getElem? (i := 16) rfl))) (mvT hZ (hw _ (List.mem_of_getElem? (i := 15) rfl))) (by decide) (backOf (W := 1) (own_r2 l Z a0 hw [] a2 (Int32.ofNat rn) b2 own_up rn zc fm h0 n0 Z0 (own_ix (by omega)) hrn S1 hzc S2 hfm E_a2 F_a2_coder F_a2_value A_b2) hZ (hw _ (List.mem_of_getElem? (i := 17) rfl)) (hw _ (List.mem_of_getElem? (i := 5) rfl)) (by decide) (by decide)) q17a q17c (g := (mkF m 82 #[.val (.int c_), .val (.int (Int32.ofNat dn)), .val (.ref a1), .val (.ref a2), .val (.int (own_ch (own_lo dn))), .val (.int (own_ch (own_up dn))), .val (.int (Int32.ofNat rn))] [(.int (Int32.ofNat rn)), (.ref a2), (.int c_)])) rfl (by rw [hml]; rfl) (Steps.refl _) (argsL := [(.int (Int32.ofNat rn))]) (rest := [(.int c_)]) (lenOf own_pd_1 rfl) rfl (by show 2 * 0 + _ ≤ _; exact Nat.le_of_eq rfl) (hb hby own_d1_82) (fun _ _ => ⟨rfl, e16, (by decide : 4 + 0 ≤ _), (by decide : 136 + 0 ≤ _)⟩)
      dsimp only [Pt.U, Pt.locs, Pt.cells, Pt.slots] at X17 l17 y17 z17 st17 hQ17
      subst l17 y17 z17
      obtain ⟨rfl, N17q, e17⟩ := hQ17
      have N17 := Fr.app N16 N17q
      refine own_by (fun t k => st17.trans k) ?_
      show own_Go p e below T17 (mkF m 85 #[.val (.int c_), .val (.int (Int32.ofNat dn)), .val (.ref a1), .val (.ref a2), .val (.int (own_ch (own_lo dn))), .val (.int (own_ch (own_up dn))), .val (.int (Int32.ofNat rn))] [(.int (own_ch (own_up rn))), (.int c_)]) _
      refine own_s_icmpNo X17.here hx (hb hby own_d1_85) (Jvm.Free.XT.ii_ne_f ((hor.resolve_left hc75))) ?_
      refine own_s_iconst X17.here hx (1 : Int32) (hb hby own_d1_88) rfl ?_
      show own_Go p e below T17 (mkF m 89 #[.val (.int c_), .val (.int (Int32.ofNat dn)), .val (.ref a1), .val (.ref a2), .val (.int (own_ch (own_lo dn))), .val (.int (own_ch (own_up dn))), .val (.int (Int32.ofNat rn))] [(.int (1 : Int32))]) _
      refine own_s_goto X17.here hx 93 (hb hby own_d1_89) (by decide) (by decide) ?_
      refine own_retZ X17 hx hret hlk (hb hby own_d1_93) rfl (by decide) (by decide) ?_
      exact ⟨rfl, N17, e17⟩
set_option maxRecDepth 65536 in
set_option maxHeartbeats 40000000 in
theorem own_p6b {p : Program} {l : Launch} {e : Env} {s : State} {m : MethodId} {args : Array Value} {below : List Frame} {meth : Method} {c : Code} {Z : State} {a0 : Array Value} {n0 : Nat} (hx : p.tables.exec = Jvm.exec) (hZ : Z.Warmed39 s.vm) (hw : ∀ d ∈ tables_1, d.before a0 Z = true) (hby : c.code = method_3_code) (hml : c.maxLocals = 7) (hown : s.vm.findClass "com/example/ann_arbor/annarbor/http/wire/SyntaxHexValuePinLaw" = some m.cls) (hnm : meth.name = "check") (hret : meth.sig.returnType = (some .boolean)) (hlk : meth.locks = false) (c_ d_ : Int32) (dn : Nat) (a1 b1 a2 b2 : Addr) (zc : Int32) (fm : Value) {T0 : State} {locs : List Loc} {h0 : Heap} (X0 : Stand p l e ({ frames := 5, cells := 0, slots := 0, locals := 120 } : Room) s m args below meth c T0 locs 0 0) (e0 : T0.heap = h0) (N0 : Fr n0 locs) (Z0 : n0 ≤ h0.size) (hd : d_ = Int32.ofNat dn) (hdn : dn < 16) (S1 : Sta Z h0 "java/lang/String" "COMPACT_STRINGS" "Z" (.int zc)) (hzc : ¬ zc = 0) (S2 : Sta Z h0 "jdk/internal/util/Preconditions" "SIOOBE_FORMATTER" "Ljava/util/function/BiFunction;" fm) (hfm : fm.isRef = true) (E_a1 : Exa Z h0 a1 "java/lang/String") (F_a1_coder : Fld Z h0 a1 "java/lang/String" "coder" "B" (.int (0 : Int32))) (F_a1_value : Fld Z h0 a1 "java/lang/String" "value" "[B" (.ref b1)) (A_b1 : own_Av Z h0 b1 .byte 16 (fun i => .int (own_lo i))) (E_a2 : Exa Z h0 a2 "java/lang/String") (F_a2_coder : Fld Z h0 a2 "java/lang/String" "coder" "B" (.int (0 : Int32))) (F_a2_value : Fld Z h0 a2 "java/lang/String" "value" "[B" (.ref b2)) (A_b2 : own_Av Z h0 b2 .byte 16 (fun i => .int (own_up i))) :
    own_Go p e below T0 (mkF m 6 #[.val (.int c_), .val (.int d_), .val (.ref a1), .val (.ref a2), .unset, .unset, .unset] []) (own_Fin s (fun (v : Option Value) (h : Heap) (L : List Loc) => v = some (.int (1 : Int32)) ∧ Fr n0 L ∧ h = h0) 0 0) := by
  show own_Go p e below T0 (mkF m 6 #[.val (.int c_), .val (.int d_), .val (.ref a1), .val (.ref a2), .unset, .unset, .unset] []) _
  subst hd
  have hl := own_h1F ⟨dn, hdn⟩
  show own_Go p e below T0 (mkF m 6 #[.val (.int c_), .val (.int (Int32.ofNat dn)), .val (.ref a1), .val (.ref a2), .unset, .unset, .unset] []) _
  refine own_s_aloadN X0.here hx (hb hby own_d1_6) rfl rfl ?_
  refine own_s_iloadN X0.here hx (hb hby own_d1_7) rfl ?_
  obtain ⟨cq18, kq18, q18a, q18b, q18c⟩ := isOf hZ e0 E_a1
  obtain ⟨_, _, ⟨T18, L18, k18, n18⟩, -, X18, ⟨Lc18, hQ18, l18, y18, z18⟩, st18⟩ := X0.virtualBack hx (y := (⟨"java/lang/String", "charAt", "(I)C"⟩ : MethodName)) (z := (⟨"java/lang/String", "charAt", "(I)C"⟩ : MethodName)) hown (mvT hZ (hw _ (List.mem_of_getElem? (i := 13) rfl))) (mvT hZ (hw _ (List.mem_of_getElem? (i := 14) rfl))) (notFace_of_selects (args := #[]) (mvT hZ (hw _ (List.mem_of_getElem? (i := 16) rfl)))) (mvT hZ (hw _ (List.mem_of_getElem? (i := 16) rfl))) (mvT hZ (hw _ (List.mem_of_getElem? (i := 15) rfl))) (by decide) (backOf (W := 0) (own_r2 l Z a0 hw [] a1 (Int32.ofNat dn) b1 own_lo dn zc fm h0 n0 Z0 (own_ix (by omega)) hdn S1 hzc S2 hfm E_a1 F_a1_coder F_a1_value A_b1) hZ (hw _ (List.mem_of_getElem? (i := 17) rfl)) (hw _ (List.mem_of_getElem? (i := 5) rfl)) (by decide) (by decide)) q18a q18c (g := (mkF m 8 #[.val (.int c_), .val (.int (Int32.ofNat dn)), .val (.ref a1), .val (.ref a2), .unset, .unset, .unset] [(.int (Int32.ofNat dn)), (.ref a1)])) rfl (by rw [hml]; rfl) (Steps.refl _) (argsL := [(.int (Int32.ofNat dn))]) (rest := []) (lenOf own_pd_1 rfl) rfl (by show 2 * 0 + _ ≤ _; exact Nat.le_of_eq rfl) (hb hby own_d1_8) (fun _ _ => ⟨rfl, e0, (by decide : 0 + 0 ≤ _), (by decide : 0 + 0 ≤ _)⟩)
  dsimp only [Pt.U, Pt.locs, Pt.cells, Pt.slots] at X18 l18 y18 z18 st18 hQ18
  subst l18 y18 z18
  obtain ⟨rfl, N18q, e18⟩ := hQ18
  have N18 := Fr.app N0 N18q
  refine own_by (fun t k => st18.trans k) ?_
  show own_Go p e below T18 (mkF m 11 #[.val (.int c_), .val (.int (Int32.ofNat dn)), .val (.ref a1), .val (.ref a2), .unset, .unset, .unset] [(.int (own_ch (own_lo dn)))]) _
  refine own_s_istore X18.here hx #[.val (.int c_), .val (.int (Int32.ofNat dn)), .val (.ref a1), .val (.ref a2), .val (.int (own_ch (own_lo dn))), .unset, .unset] (hb hby own_d1_11) rfl ?_
  refine own_s_aloadN X18.here hx (hb hby own_d1_13) rfl rfl ?_
  refine own_s_iloadN X18.here hx (hb hby own_d1_14) rfl ?_
  obtain ⟨cq19, kq19, q19a, q19b, q19c⟩ := isOf hZ e18 E_a2
  obtain ⟨_, _, ⟨T19, L19, k19, n19⟩, -, X19, ⟨Lc19, hQ19, l19, y19, z19⟩, st19⟩ := X18.virtualBack hx (y := (⟨"java/lang/String", "charAt", "(I)C"⟩ : MethodName)) (z := (⟨"java/lang/String", "charAt", "(I)C"⟩ : MethodName)) hown (mvT hZ (hw _ (List.mem_of_getElem? (i := 13) rfl))) (mvT hZ (hw _ (List.mem_of_getElem? (i := 14) rfl))) (notFace_of_selects (args := #[]) (mvT hZ (hw _ (List.mem_of_getElem? (i := 16) rfl)))) (mvT hZ (hw _ (List.mem_of_getElem? (i := 16) rfl))) (mvT hZ (hw _ (List.mem_of_getElem? (i := 15) rfl))) (by decide) (backOf (W := 0) (own_r2 l Z a0 hw [] a2 (Int32.ofNat dn) b2 own_up dn zc fm h0 n0 Z0 (own_ix (by omega)) hdn S1 hzc S2 hfm E_a2 F_a2_coder F_a2_value A_b2) hZ (hw _ (List.mem_of_getElem? (i := 17) rfl)) (hw _ (List.mem_of_getElem? (i := 5) rfl)) (by decide) (by decide)) q19a q19c (g := (mkF m 15 #[.val (.int c_), .val (.int (Int32.ofNat dn)), .val (.ref a1), .val (.ref a2), .val (.int (own_ch (own_lo dn))), .unset, .unset] [(.int (Int32.ofNat dn)), (.ref a2)])) rfl (by rw [hml]; rfl) (Steps.refl _) (argsL := [(.int (Int32.ofNat dn))]) (rest := []) (lenOf own_pd_1 rfl) rfl (by show 2 * 0 + _ ≤ _; exact Nat.le_of_eq rfl) (hb hby own_d1_15) (fun _ _ => ⟨rfl, e18, (by decide : 0 + 0 ≤ _), (by decide : 0 + 0 ≤ _)⟩)
  dsimp only [Pt.U, Pt.locs, Pt.cells, Pt.slots] at X19 l19 y19 z19 st19 hQ19
  subst l19 y19 z19
  obtain ⟨rfl, N19q, e19⟩ := hQ19
  have N19 := Fr.app N18 N19q
  refine own_by (fun t k => st19.trans k) ?_
  show own_Go p e below T19 (mkF m 18 #[.val (.int c_), .val (.int (Int32.ofNat dn)), .val (.ref a1), .val (.ref a2), .val (.int (own_ch (own_lo dn))), .unset, .unset] [(.int (own_ch (own_up dn)))]) _
  refine own_s_istore X19.here hx #[.val (.int c_), .val (.int (Int32.ofNat dn)), .val (.ref a1), .val (.ref a2), .val (.int (own_ch (own_lo dn))), .val (.int (own_ch (own_up dn))), .unset] (hb hby own_d1_18) rfl ?_
  refine own_s_iload X19.here hx (hb hby own_d1_20) rfl ?_
  obtain ⟨_, _, ⟨T20, L20, k20, n20⟩, -, X20, ⟨Lc20, hQ20, l20, y20, z20⟩, st20⟩ := Jvm.LawKit.callS X19 hx (y := (⟨"com/example/ann_arbor/annarbor/http/wire/Syntax", "hexValue", "(I)I"⟩ : MethodName)) hown (mvT hZ (hw _ (List.mem_of_getElem? (i := 38) rfl))) (mvT hZ (hw _ (List.mem_of_getElem? (i := 39) rfl))) (mvT hZ (hw _ (List.mem_of_getElem? (i := 40) rfl))) (mvT hZ (hw _ (List.mem_of_getElem? (i := 41) rfl))) (by decide) (backOf (W := 0) (own_r7 l Z a0 hw [] (own_ch (own_lo dn))  h0 n0 Z0 ) hZ (hw _ (List.mem_of_getElem? (i := 41) rfl)) (hw _ (List.mem_of_getElem? (i := 40) rfl)) (by decide) (by decide)) (g := (mkF m 22 #[.val (.int c_), .val (.int (Int32.ofNat dn)), .val (.ref a1), .val (.ref a2), .val (.int (own_ch (own_lo dn))), .val (.int (own_ch (own_up dn))), .unset] [(.int (own_ch (own_lo dn)))])) rfl (by rw [hml]; rfl) (argsL := [(.int (own_ch (own_lo dn)))]) (rest := []) (lenOf own_pd_6 rfl) rfl (by show 2 * 0 + _ ≤ _; exact Nat.le_of_eq rfl) (hb hby own_d1_22) (fun _ _ => ⟨rfl, e19, (by decide : 0 + 0 ≤ _), (by decide : 0 + 0 ≤ _)⟩)
  dsimp only [Pt.U, Pt.locs, Pt.cells, Pt.slots] at X20 l20 y20 z20 st20 hQ20
  subst l20 y20 z20
  obtain ⟨rfl, N20q, e20⟩ := hQ20
  have N20 := Fr.app N19 N20q
  refine own_by st20 ?_
  show own_Go p e below T20 (mkF m 25 #[.val (.int c_), .val (.int (Int32.ofNat dn)), .val (.ref a1), .val (.ref a2), .val (.int (own_ch (own_lo dn))), .val (.int (own_ch (own_up dn))), .unset] [(.int (own_f7 (own_ch (own_lo dn))))]) _
  refine own_s_iloadN X20.here hx (hb hby own_d1_25) rfl ?_
  show own_Go p e below T20 (mkF m 26 #[.val (.int c_), .val (.int (Int32.ofNat dn)), .val (.ref a1), .val (.ref a2), .val (.int (own_ch (own_lo dn))), .val (.int (own_ch (own_up dn))), .unset] [(.int (Int32.ofNat dn)), (.int (own_f7 (own_ch (own_lo dn))))]) _
  refine own_s_icmpYes X20.here hx 31 (hb hby own_d1_26) (Jvm.Free.XT.ii_eq_t hl.1) (by decide) (by decide) ?_
  refine own_s_iload X20.here hx (hb hby own_d1_31) rfl ?_
  obtain ⟨_, _, ⟨T21, L21, k21, n21⟩, -, X21, ⟨Lc21, hQ21, l21, y21, z21⟩, st21⟩ := Jvm.LawKit.callS X20 hx (y := (⟨"com/example/ann_arbor/annarbor/http/wire/Syntax", "hexValue", "(I)I"⟩ : MethodName)) hown (mvT hZ (hw _ (List.mem_of_getElem? (i := 38) rfl))) (mvT hZ (hw _ (List.mem_of_getElem? (i := 39) rfl))) (mvT hZ (hw _ (List.mem_of_getElem? (i := 40) rfl))) (mvT hZ (hw _ (List.mem_of_getElem? (i := 41) rfl))) (by decide) (backOf (W := 0) (own_r7 l Z a0 hw [] (own_ch (own_up dn))  h0 n0 Z0 ) hZ (hw _ (List.mem_of_getElem? (i := 41) rfl)) (hw _ (List.mem_of_getElem? (i := 40) rfl)) (by decide) (by decide)) (g := (mkF m 33 #[.val (.int c_), .val (.int (Int32.ofNat dn)), .val (.ref a1), .val (.ref a2), .val (.int (own_ch (own_lo dn))), .val (.int (own_ch (own_up dn))), .unset] [(.int (own_ch (own_up dn)))])) rfl (by rw [hml]; rfl) (argsL := [(.int (own_ch (own_up dn)))]) (rest := []) (lenOf own_pd_6 rfl) rfl (by show 2 * 0 + _ ≤ _; exact Nat.le_of_eq rfl) (hb hby own_d1_33) (fun _ _ => ⟨rfl, e20, (by decide : 0 + 0 ≤ _), (by decide : 0 + 0 ≤ _)⟩)
  dsimp only [Pt.U, Pt.locs, Pt.cells, Pt.slots] at X21 l21 y21 z21 st21 hQ21
  subst l21 y21 z21
  obtain ⟨rfl, N21q, e21⟩ := hQ21
  have N21 := Fr.app N20 N21q
  refine own_by st21 ?_
  show own_Go p e below T21 (mkF m 36 #[.val (.int c_), .val (.int (Int32.ofNat dn)), .val (.ref a1), .val (.ref a2), .val (.int (own_ch (own_lo dn))), .val (.int (own_ch (own_up dn))), .unset] [(.int (own_f7 (own_ch (own_up dn))))]) _
  refine own_s_iloadN X21.here hx (hb hby own_d1_36) rfl ?_
  show own_Go p e below T21 (mkF m 37 #[.val (.int c_), .val (.int (Int32.ofNat dn)), .val (.ref a1), .val (.ref a2), .val (.int (own_ch (own_lo dn))), .val (.int (own_ch (own_up dn))), .unset] [(.int (Int32.ofNat dn)), (.int (own_f7 (own_ch (own_up dn))))]) _
  refine own_s_icmpYes X21.here hx 42 (hb hby own_d1_37) (Jvm.Free.XT.ii_eq_t hl.2) (by decide) (by decide) ?_
  refine own_s_iloadN X21.here hx (hb hby own_d1_42) rfl ?_
  obtain ⟨_, _, ⟨T22, L22, k22, n22⟩, -, X22, ⟨Lc22, hQ22, l22, y22, z22⟩, st22⟩ := Jvm.LawKit.callS X21 hx (y := (⟨"com/example/ann_arbor/annarbor/http/wire/Syntax", "hexValue", "(I)I"⟩ : MethodName)) hown (mvT hZ (hw _ (List.mem_of_getElem? (i := 38) rfl))) (mvT hZ (hw _ (List.mem_of_getElem? (i := 39) rfl))) (mvT hZ (hw _ (List.mem_of_getElem? (i := 40) rfl))) (mvT hZ (hw _ (List.mem_of_getElem? (i := 41) rfl))) (by decide) (backOf (W := 0) (own_r7 l Z a0 hw [] c_  h0 n0 Z0 ) hZ (hw _ (List.mem_of_getElem? (i := 41) rfl)) (hw _ (List.mem_of_getElem? (i := 40) rfl)) (by decide) (by decide)) (g := (mkF m 43 #[.val (.int c_), .val (.int (Int32.ofNat dn)), .val (.ref a1), .val (.ref a2), .val (.int (own_ch (own_lo dn))), .val (.int (own_ch (own_up dn))), .unset] [(.int c_)])) rfl (by rw [hml]; rfl) (argsL := [(.int c_)]) (rest := []) (lenOf own_pd_6 rfl) rfl (by show 2 * 0 + _ ≤ _; exact Nat.le_of_eq rfl) (hb hby own_d1_43) (fun _ _ => ⟨rfl, e21, (by decide : 0 + 0 ≤ _), (by decide : 0 + 0 ≤ _)⟩)
  dsimp only [Pt.U, Pt.locs, Pt.cells, Pt.slots] at X22 l22 y22 z22 st22 hQ22
  subst l22 y22 z22
  obtain ⟨rfl, N22q, e22⟩ := hQ22
  have N22 := Fr.app N21 N22q
  refine own_by st22 ?_
  show own_Go p e below T22 (mkF m 46 #[.val (.int c_), .val (.int (Int32.ofNat dn)), .val (.ref a1), .val (.ref a2), .val (.int (own_ch (own_lo dn))), .val (.int (own_ch (own_up dn))), .unset] [(.int (own_f7 c_))]) _
  rcases own_h2 c_ with hm | ⟨rn, hrn, hr, hor⟩
  ·
    have hr0 := hm
    rw [hm]
    show own_Go p e below T22 (mkF m 46 #[.val (.int c_), .val (.int (Int32.ofNat dn)), .val (.ref a1), .val (.ref a2), .val (.int (own_ch (own_lo dn))), .val (.int (own_ch (own_up dn))), .unset] [(.int (-1 : Int32))]) _
    refine own_s_istore X22.here hx #[.val (.int c_), .val (.int (Int32.ofNat dn)), .val (.ref a1), .val (.ref a2), .val (.int (own_ch (own_lo dn))), .val (.int (own_ch (own_up dn))), .val (.int (-1 : Int32))] (hb hby own_d1_46) rfl ?_
    refine own_s_iload X22.here hx (hb hby own_d1_48) rfl ?_
    refine own_s_iconst X22.here hx (-1 : Int32) (hb hby own_d1_50) rfl ?_
    refine own_s_icmpNo X22.here hx (hb hby own_d1_51) (Jvm.Free.XT.ii_lt_f ((by decide))) ?_
    refine own_s_iload X22.here hx (hb hby own_d1_54) rfl ?_
    refine own_s_bipush X22.here hx (15 : Int32) (hb hby own_d1_56) rfl ?_
    show own_Go p e below T22 (mkF m 58 #[.val (.int c_), .val (.int (Int32.ofNat dn)), .val (.ref a1), .val (.ref a2), .val (.int (own_ch (own_lo dn))), .val (.int (own_ch (own_up dn))), .val (.int (-1 : Int32))] [(.int (15 : Int32)), (.int (-1 : Int32))]) _
    refine own_s_icmpYes X22.here hx 63 (hb hby own_d1_58) (Jvm.Free.XT.ii_le_t ((by decide))) (by decide) (by decide) ?_
    refine own_s_iload X22.here hx (hb hby own_d1_63) rfl ?_
    show own_Go p e below T22 (mkF m 65 #[.val (.int c_), .val (.int (Int32.ofNat dn)), .val (.ref a1), .val (.ref a2), .val (.int (own_ch (own_lo dn))), .val (.int (own_ch (own_up dn))), .val (.int (-1 : Int32))] [(.int (-1 : Int32))]) _
    refine own_s_ifYes X22.here hx 94 (hb hby own_d1_65) (Jvm.Free.XT.i0_lt_t ((by decide))) (by decide) (by decide) ?_
    refine own_s_iloadN X22.here hx (hb hby own_d1_94) rfl ?_
    refine own_s_iload X22.here hx (hb hby own_d1_95) rfl ?_
    refine own_s_icmpNo X22.here hx (hb hby own_d1_97) (Jvm.Free.XT.ii_eq_f ((fun q => by rw [q, hl.1] at hr0; exact absurd hr0 (own_nm hdn)))) ?_
    refine own_s_iloadN X22.here hx (hb hby own_d1_100) rfl ?_
    refine own_s_iload X22.here hx (hb hby own_d1_101) rfl ?_
    refine own_s_icmpNo X22.here hx (hb hby own_d1_103) (Jvm.Free.XT.ii_eq_f ((fun q => by rw [q, hl.2] at hr0; exact absurd hr0 (own_nm hdn)))) ?_
    refine own_s_iconst X22.here hx (1 : Int32) (hb hby own_d1_106) rfl ?_
    show own_Go p e below T22 (mkF m 107 #[.val (.int c_), .val (.int (Int32.ofNat dn)), .val (.ref a1), .val (.ref a2), .val (.int (own_ch (own_lo dn))), .val (.int (own_ch (own_up dn))), .val (.int (-1 : Int32))] [(.int (1 : Int32))]) _
    refine own_s_goto X22.here hx 111 (hb hby own_d1_107) (by decide) (by decide) ?_
    refine own_retZ X22 hx hret hlk (hb hby own_d1_111) rfl (by decide) (by decide) ?_
    exact ⟨rfl, N22, e22⟩
  ·
    have hr0 := hr
    rw [hr]
    show own_Go p e below T22 (mkF m 46 #[.val (.int c_), .val (.int (Int32.ofNat dn)), .val (.ref a1), .val (.ref a2), .val (.int (own_ch (own_lo dn))), .val (.int (own_ch (own_up dn))), .unset] [(.int (Int32.ofNat rn))]) _
    have h16 := own_r16 ⟨rn, hrn⟩
    refine own_s_istore X22.here hx #[.val (.int c_), .val (.int (Int32.ofNat dn)), .val (.ref a1), .val (.ref a2), .val (.int (own_ch (own_lo dn))), .val (.int (own_ch (own_up dn))), .val (.int (Int32.ofNat rn))] (hb hby own_d1_46) rfl ?_
    refine own_s_iload X22.here hx (hb hby own_d1_48) rfl ?_
    refine own_s_iconst X22.here hx (-1 : Int32) (hb hby own_d1_50) rfl ?_
    refine own_s_icmpNo X22.here hx (hb hby own_d1_51) (Jvm.Free.XT.ii_lt_f h16.1) ?_
    refine own_s_iload X22.here hx (hb hby own_d1_54) rfl ?_
    refine own_s_bipush X22.here hx (15 : Int32) (hb hby own_d1_56) rfl ?_
    show own_Go p e below T22 (mkF m 58 #[.val (.int c_), .val (.int (Int32.ofNat dn)), .val (.ref a1), .val (.ref a2), .val (.int (own_ch (own_lo dn))), .val (.int (own_ch (own_up dn))), .val (.int (Int32.ofNat rn))] [(.int (15 : Int32)), (.int (Int32.ofNat rn))]) _
    refine own_s_icmpYes X22.here hx 63 (hb hby own_d1_58) (Jvm.Free.XT.ii_le_t h16.2.1) (by decide) (by decide) ?_
    refine own_s_iload X22.here hx (hb hby own_d1_63) rfl ?_
    refine own_s_ifNo X22.here hx (hb hby own_d1_65) (Jvm.Free.XT.i0_lt_f h16.2.2) ?_
    refine own_s_iloadN X22.here hx (hb hby own_d1_68) rfl ?_
    refine own_s_aloadN X22.here hx (hb hby own_d1_69) rfl rfl ?_
    refine own_s_iload X22.here hx (hb hby own_d1_70) rfl ?_
    obtain ⟨cq23, kq23, q23a, q23b, q23c⟩ := isOf hZ e22 E_a1
    obtain ⟨_, _, ⟨T23, L23, k23, n23⟩, -, X23, ⟨Lc23, hQ23, l23, y23, z23⟩, st23⟩ := X22.virtualBack hx (y := (⟨"java/lang/String", "charAt", "(I)C"⟩ : MethodName)) (z := (⟨"java/lang/String", "charAt", "(I)C"⟩ : MethodName)) hown (mvT hZ (hw _ (List.mem_of_getElem? (i := 13) rfl))) (mvT hZ (hw _ (List.mem_of_getElem? (i := 14) rfl))) (notFace_of_selects (args := #[]) (mvT hZ (hw _ (List.mem_of_getElem? (i := 16) rfl)))) (mvT hZ (hw _ (List.mem_of_getElem? (i := 16) rfl))) (mvT hZ (hw _ (List.mem_of_getElem? (i := 15) rfl))) (by decide) (backOf (W := 1) (own_r2 l Z a0 hw [] a1 (Int32.ofNat rn) b1 own_lo rn zc fm h0 n0 Z0 (own_ix (by omega)) hrn S1 hzc S2 hfm E_a1 F_a1_coder F_a1_value A_b1) hZ (hw _ (List.mem_of_getElem? (i := 17) rfl)) (hw _ (List.mem_of_getElem? (i := 5) rfl)) (by decide) (by decide)) q23a q23c (g := (mkF m 72 #[.val (.int c_), .val (.int (Int32.ofNat dn)), .val (.ref a1), .val (.ref a2), .val (.int (own_ch (own_lo dn))), .val (.int (own_ch (own_up dn))), .val (.int (Int32.ofNat rn))] [(.int (Int32.ofNat rn)), (.ref a1), (.int c_)])) rfl (by rw [hml]; rfl) (Steps.refl _) (argsL := [(.int (Int32.ofNat rn))]) (rest := [(.int c_)]) (lenOf own_pd_1 rfl) rfl (by show 2 * 0 + _ ≤ _; exact Nat.le_of_eq rfl) (hb hby own_d1_72) (fun _ _ => ⟨rfl, e22, (by decide : 0 + 0 ≤ _), (by decide : 0 + 0 ≤ _)⟩)
    dsimp only [Pt.U, Pt.locs, Pt.cells, Pt.slots] at X23 l23 y23 z23 st23 hQ23
    subst l23 y23 z23
    obtain ⟨rfl, N23q, e23⟩ := hQ23
    have N23 := Fr.app N22 N23q
    refine own_by (fun t k => st23.trans k) ?_
    show own_Go p e below T23 (mkF m 75 #[.val (.int c_), .val (.int (Int32.ofNat dn)), .val (.ref a1), .val (.ref a2), .val (.int (own_ch (own_lo dn))), .val (.int (own_ch (own_up dn))), .val (.int (Int32.ofNat rn))] [(.int (own_ch (own_lo rn))), (.int c_)]) _
    by_cases hc75 : c_ = (own_ch (own_lo rn))
    ·
      refine own_s_icmpYes X23.here hx 88 (hb hby own_d1_75) (Jvm.Free.XT.ii_eq_t hc75) (by decide) (by decide) ?_
      refine own_s_iconst X23.here hx (1 : Int32) (hb hby own_d1_88) rfl ?_
      show own_Go p e below T23 (mkF m 89 #[.val (.int c_), .val (.int (Int32.ofNat dn)), .val (.ref a1), .val (.ref a2), .val (.int (own_ch (own_lo dn))), .val (.int (own_ch (own_up dn))), .val (.int (Int32.ofNat rn))] [(.int (1 : Int32))]) _
      refine own_s_goto X23.here hx 93 (hb hby own_d1_89) (by decide) (by decide) ?_
      refine own_retZ X23 hx hret hlk (hb hby own_d1_93) rfl (by decide) (by decide) ?_
      exact ⟨rfl, N23, e23⟩
    ·
      refine own_s_icmpNo X23.here hx (hb hby own_d1_75) (Jvm.Free.XT.ii_eq_f hc75) ?_
      refine own_s_iloadN X23.here hx (hb hby own_d1_78) rfl ?_
      refine own_s_aloadN X23.here hx (hb hby own_d1_79) rfl rfl ?_
      refine own_s_iload X23.here hx (hb hby own_d1_80) rfl ?_
      obtain ⟨cq24, kq24, q24a, q24b, q24c⟩ := isOf hZ e23 E_a2
      obtain ⟨_, _, ⟨T24, L24, k24, n24⟩, -, X24, ⟨Lc24, hQ24, l24, y24, z24⟩, st24⟩ := X23.virtualBack hx (y := (⟨"java/lang/String", "charAt", "(I)C"⟩ : MethodName)) (z := (⟨"java/lang/String", "charAt", "(I)C"⟩ : MethodName)) hown (mvT hZ (hw _ (List.mem_of_getElem? (i := 13) rfl))) (mvT hZ (hw _ (List.mem_of_getElem? (i := 14) rfl))) (notFace_of_selects (args := #[]) (mvT hZ (hw _ (List.mem_of_getElem? (i := 16) rfl)))) (mvT hZ (hw _ (List.mem_of_getElem? (i := 16) rfl))) (mvT hZ (hw _ (List.mem_of_getElem? (i := 15) rfl))) (by decide) (backOf (W := 1) (own_r2 l Z a0 hw [] a2 (Int32.ofNat rn) b2 own_up rn zc fm h0 n0 Z0 (own_ix (by omega)) hrn S1 hzc S2 hfm E_a2 F_a2_coder F_a2_value A_b2) hZ (hw _ (List.mem_of_getElem? (i := 17) rfl)) (hw _ (List.mem_of_getElem? (i := 5) rfl)) (by decide) (by decide)) q24a q24c (g := (mkF m 82 #[.val (.int c_), .val (.int (Int32.ofNat dn)), .val (.ref a1), .val (.ref a2), .val (.int (own_ch (own_lo dn))), .val (.int (own_ch (own_up dn))), .val (.int (Int32.ofNat rn))] [(.int (Int32.ofNat rn)), (.ref a2), (.int c_)])) rfl (by rw [hml]; rfl) (Steps.refl _) (argsL := [(.int (Int32.ofNat rn))]) (rest := [(.int c_)]) (lenOf own_pd_1 rfl) rfl (by show 2 * 0 + _ ≤ _; exact Nat.le_of_eq rfl) (hb hby own_d1_82) (fun _ _ => ⟨rfl, e23, (by decide : 0 + 0 ≤ _), (by decide : 0 + 0 ≤ _)⟩)
      dsimp only [Pt.U, Pt.locs, Pt.cells, Pt.slots] at X24 l24 y24 z24 st24 hQ24
      subst l24 y24 z24
      obtain ⟨rfl, N24q, e24⟩ := hQ24
      have N24 := Fr.app N23 N24q
      refine own_by (fun t k => st24.trans k) ?_
      show own_Go p e below T24 (mkF m 85 #[.val (.int c_), .val (.int (Int32.ofNat dn)), .val (.ref a1), .val (.ref a2), .val (.int (own_ch (own_lo dn))), .val (.int (own_ch (own_up dn))), .val (.int (Int32.ofNat rn))] [(.int (own_ch (own_up rn))), (.int c_)]) _
      refine own_s_icmpNo X24.here hx (hb hby own_d1_85) (Jvm.Free.XT.ii_ne_f ((hor.resolve_left hc75))) ?_
      refine own_s_iconst X24.here hx (1 : Int32) (hb hby own_d1_88) rfl ?_
      show own_Go p e below T24 (mkF m 89 #[.val (.int c_), .val (.int (Int32.ofNat dn)), .val (.ref a1), .val (.ref a2), .val (.int (own_ch (own_lo dn))), .val (.int (own_ch (own_up dn))), .val (.int (Int32.ofNat rn))] [(.int (1 : Int32))]) _
      refine own_s_goto X24.here hx 93 (hb hby own_d1_89) (by decide) (by decide) ?_
      refine own_retZ X24 hx hret hlk (hb hby own_d1_93) rfl (by decide) (by decide) ?_
      exact ⟨rfl, N24, e24⟩
theorem own_ef1 (m : MethodId) (c_ : Int32) (d_ : Int32) : entryFrame m #[(.int c_), (.int d_)] 7 = mkF m 0 #[.val (.int c_), .val (.int d_), .unset, .unset, .unset, .unset, .unset] [] := by first | (simp [entryFrame, mkF, argsToLocals, Value.category]; done) | rfl
def own_q_own_r1a (Z : State) (c_ : Int32) (d_ : Int32) (dn : Nat) (zc : Int32) (fm : Value) (h0 : Heap) (n0 : Nat) (v : Option Value) (h : Heap) (vm : Vm) (L : List Loc) : Prop := v = some (.int (1 : Int32)) ∧ Fr n0 L ∧ Ext h0 h ∧ ∃ a1 b1 a2 b2 : Addr, Lit (Z.setVm vm) "com/example/ann_arbor/annarbor/http/wire/SyntaxHexValuePinLaw" 13 a1 ∧ Lit (Z.setVm vm) "com/example/ann_arbor/annarbor/http/wire/SyntaxHexValuePinLaw" 15 a2 ∧ Exa Z h a1 "java/lang/String" ∧ Fld Z h a1 "java/lang/String" "coder" "B" (.int (0 : Int32)) ∧ Fld Z h a1 "java/lang/String" "value" "[B" (.ref b1) ∧ own_Av Z h b1 .byte 16 (fun i => .int (own_lo i)) ∧ Exa Z h a2 "java/lang/String" ∧ Fld Z h a2 "java/lang/String" "coder" "B" (.int (0 : Int32)) ∧ Fld Z h a2 "java/lang/String" "value" "[B" (.ref b2) ∧ own_Av Z h b2 .byte 16 (fun i => .int (own_up i))
set_option maxRecDepth 65536 in
set_option maxHeartbeats 40000000 in
theorem own_r1a (l : Launch) (Z : State) (a0 : Array Value) (hw : ∀ d ∈ tables_1, d.before a0 Z = true) (ws : List Jvm.Cond) (c_ : Int32) (d_ : Int32) (dn : Nat) (zc : Int32) (fm : Value) (h0 : Heap) (n0 : Nat) (Z0 : n0 ≤ h0.size) (hd : d_ = Int32.ofNat dn) (hdn : dn < 16) (S1 : Sta Z h0 "java/lang/String" "COMPACT_STRINGS" "Z" (.int zc)) (hzc : ¬ zc = 0) (S2 : Sta Z h0 "jdk/internal/util/Preconditions" "SIOOBE_FORMATTER" "Ljava/util/function/BiFunction;" fm) (hfm : fm.isRef = true) (hh1 : Jvm.Lit.constHeld Z "com/example/ann_arbor/annarbor/http/wire/SyntaxHexValuePinLaw" 13) (hh2 : Jvm.Lit.constHeld Z "com/example/ann_arbor/annarbor/http/wire/SyntaxHexValuePinLaw" 15) (hcw : Jvm.Lit.compactW.before a0 Z = true) (hkeep : ∀ (b : Addr) (cl : Cell), Z.heap[b]? = some cl → h0[b]? = some cl) :
    MetFree l (⟨"com/example/ann_arbor/annarbor/http/wire/SyntaxHexValuePinLaw", "check", "(II)Z"⟩ : MethodName) (head1 (Jvm.Cond.code (⟨"com/example/ann_arbor/annarbor/http/wire/SyntaxHexValuePinLaw", "check", "(II)Z"⟩ : MethodName) method_3_code 7 (some .boolean) :: ws) ({ frames := 5, cells := 4, slots := 136, locals := 120 } : Room)) (fun aq Uq => aq = #[(.int c_), (.int d_)] ∧ Z.Warmed39 Uq.vm ∧ Uq.heap = h0 ∧ IB Z Uq.vm []) (fun _ _ _ _ _ => True) (fun _ Uq oq Uq' => ∃ vq Lq, oq = .returned vq ∧ own_q_own_r1a Z c_ d_ dn zc fm h0 n0 vq Uq'.heap Uq'.vm Lq ∧ ReturnedEndW Uq oq Uq' Lq ({ frames := 5, cells := 4, slots := 136, locals := 120 } : Room).cells ({ frames := 5, cells := 4, slots := 136, locals := 120 } : Room).slots) := by
  refine MetFree.of_bodySF (plainFor_of_name own_pn_SyntaxHexValuePinLaw) hisR ?_
  intro p e s m args below meth c T0 Bd hml0 hP hK
  obtain ⟨rfl, hZ, hh, hI⟩ := hP
  have hx := Bd.exec
  have hby := Bd.bytes
  have hml : c.maxLocals = 7 := hml0
  have hown : s.vm.findClass "com/example/ann_arbor/annarbor/http/wire/SyntaxHexValuePinLaw" = some m.cls := findClass_of_methodNamed Bd.named
  have hnm := (name_of_methodNamed Bd.named Bd.method).1
  have hret : meth.sig.returnType = (some .boolean) := Bd.returns
  have hlk : meth.locks = false := BodyLoose.notSynchronized Bd
  have X0 : Stand p l e ({ frames := 5, cells := 4, slots := 136, locals := 120 } : Room) s m #[(.int c_), (.int d_)] below meth c T0 [] 0 0 := Stand.of_body Bd
  have e0 : T0.heap = h0 := by rw [← hh, Bd.state]; rfl
  have N0 := Fr.nil n0
  refine own_startV (own_ef1 m c_ d_) (Q := fun (v : Option Value) (h : Heap) (vm : Vm) (L : List Loc) => v = some (.int (1 : Int32)) ∧ Fr n0 L ∧ Ext h0 h ∧ ∃ a1 b1 a2 b2 : Addr, Lit (Z.setVm vm) "com/example/ann_arbor/annarbor/http/wire/SyntaxHexValuePinLaw" 13 a1 ∧ Lit (Z.setVm vm) "com/example/ann_arbor/annarbor/http/wire/SyntaxHexValuePinLaw" 15 a2 ∧ Exa Z h a1 "java/lang/String" ∧ Fld Z h a1 "java/lang/String" "coder" "B" (.int (0 : Int32)) ∧ Fld Z h a1 "java/lang/String" "value" "[B" (.ref b1) ∧ own_Av Z h b1 .byte 16 (fun i => .int (own_lo i)) ∧ Exa Z h a2 "java/lang/String" ∧ Fld Z h a2 "java/lang/String" "coder" "B" (.int (0 : Int32)) ∧ Fld Z h a2 "java/lang/String" "value" "[B" (.ref b2) ∧ own_Av Z h b2 .byte 16 (fun i => .int (own_up i))) (k := 4) (j := 136) ?_
  show own_Go p e below T0 (mkF m 0 #[.val (.int c_), .val (.int d_), .unset, .unset, .unset, .unset, .unset] []) _
  have own_wS : ∀ d ∈ Bundle.stringAtoms, d.before a0 Z = true := by
    intro d hd
    simp only [Bundle.stringAtoms, List.mem_cons, List.not_mem_nil, or_false] at hd
    rcases hd with rfl | rfl | rfl | rfl | rfl | rfl | rfl
    · exact (hw _ (List.mem_of_getElem? (i := 5) rfl))
    · exact (hw _ (List.mem_of_getElem? (i := 6) rfl))
    · exact (hw _ (List.mem_of_getElem? (i := 7) rfl))
    · exact (hw _ (List.mem_of_getElem? (i := 8) rfl))
    · exact (hw _ (List.mem_of_getElem? (i := 9) rfl))
    · exact (hw _ (List.mem_of_getElem? (i := 10) rfl))
    · exact (hw _ (List.mem_of_getElem? (i := 11) rfl))
  obtain ⟨a1, T1, h1, k1, b1, kb1, X1, e1, E1, hS1, hk1, hZ, hown, x1, fc1, fv1, av1, -, -, hI1, lit1, st1⟩ := ldcSVL (vm0 := s.vm) X0 hx hZ hown (hw _ (List.mem_of_getElem? (i := 4) rfl)) own_wS e0 ((State.WarmedH.refl s).since h0.size) (Nat.le_refl _) (Fr.nil _) (fun b cl q => by rw [hh]; exact hkeep b cl q) hI (by simp) hh1 hcw (vs := own_lov) (z := 16) own_lot (by decide) (by decide) (g := (mkF m 0 #[.val (.int c_), .val (.int d_), .unset, .unset, .unset, .unset, .unset] [])) rfl (hb hby own_d1_0) (n := 64) (by decide) (by decide) (by decide) (by decide)
  refine own_by st1 ?_
  show own_Go p e below T1 (mkF m 2 #[.val (.int c_), .val (.int d_), .unset, .unset, .unset, .unset, .unset] [(.ref a1)]) _
  refine own_s_astoreN X1.here hx #[.val (.int c_), .val (.int d_), .val (.ref a1), .unset, .unset, .unset, .unset] (hb hby own_d1_2) rfl rfl ?_
  obtain ⟨a2, T3, h3, k3, b2, kb2, X3, e3, E3, hS3, hk3, hZ, hown, x2, fc2, fv2, av2, -, -, hI3, lit2, st3⟩ := ldcSVL (s := s.setVm T1.vm) (vm0 := T1.vm) X1 hx hZ hown (hw _ (List.mem_of_getElem? (i := 12) rfl)) own_wS e1 ((State.WarmedH.refl (s.setVm T1.vm)).since h1.size) (Nat.le_refl _) (Fr.nil _) (fun b cl q => by show s.heap[b]? = some cl; rw [hh]; exact hkeep b cl q) hI1 (by decide) hh2 hcw (vs := own_upv) (z := 16) own_upt (by decide) (by decide) (g := (mkF m 3 #[.val (.int c_), .val (.int d_), .val (.ref a1), .unset, .unset, .unset, .unset] [])) rfl (hb hby own_d1_3) (n := 64) (by decide) (by decide) (by decide) (by decide)
  have hSS : s.Since T3.vm h3.size := State.Since.trans (own_smono hS1 hk1) (own_smono hS3 hk3) E3.1
  have lit1 := Lit.stays (s := s.setVm T1.vm) (vm0 := T1.vm) lit1 hS3.1
  refine own_by st3 ?_
  show own_Go p e below T3 (mkF m 5 #[.val (.int c_), .val (.int d_), .val (.ref a1), .unset, .unset, .unset, .unset] [(.ref a2)]) _
  refine own_s_astoreN X3.here hx #[.val (.int c_), .val (.int d_), .val (.ref a1), .val (.ref a2), .unset, .unset, .unset] (hb hby own_d1_5) rfl rfl ?_
  have SZ3 : n0 ≤ h3.size := Nat.le_trans Z0 (Nat.le_trans E1.1 E3.1)
  have x1' := x1.ext E3
  have fc1' := fc1.ext E3
  have fv1' := fv1.ext E3
  have A1 := (own_Av.ofVg (av1.ext E3) (n := 16) (by decide)).cong rfl own_lof
  have A2 := (own_Av.ofVg av2 (n := 16) (by decide)).cong rfl own_upf
  have S1' := Sta.ext E3 (Sta.ext E1 S1)
  have S2' := Sta.ext E3 (Sta.ext E1 S2)
  refine own_toV hSS ?_ (own_p6a hx hZ hw hby hml hown hnm hret hlk c_ d_ dn a1 b1 a2 b2 zc fm X3 e3 N0 SZ3 hd hdn S1' hzc S2' hfm x1' fc1' fv1' A1 x2 fc2 fv2 A2)
  intro v h L vm' hW hq
  obtain ⟨rfl, hN, rfl⟩ := hq
  exact ⟨Nat.le_refl _, rfl, hN, ⟨Nat.le_trans E1.1 E3.1, fun x cl q => E3.2 x cl (E1.2 x cl q)⟩, a1, b1, a2, b2, Lit.stays (s := s.setVm T1.vm) (vm0 := T3.vm) lit1 hW.wide, Lit.stays (s := s.setVm T1.vm) (vm0 := T3.vm) lit2 hW.wide, x1', fc1', fv1', A1, x2, fc2, fv2, A2⟩
def own_q_own_r1b (Z : State) (c_ : Int32) (d_ : Int32) (dn : Nat) (a1 b1 a2 b2 : Addr) (zc : Int32) (fm : Value) (h0 : Heap) (n0 : Nat) (v : Option Value) (h : Heap) (L : List Loc) : Prop := v = some (.int (1 : Int32)) ∧ Fr n0 L ∧ h = h0
set_option maxRecDepth 65536 in
set_option maxHeartbeats 40000000 in
theorem own_r1b (l : Launch) (Z : State) (a0 : Array Value) (hw : ∀ d ∈ tables_1, d.before a0 Z = true) (ws : List Jvm.Cond) (c_ : Int32) (d_ : Int32) (dn : Nat) (a1 b1 a2 b2 : Addr) (zc : Int32) (fm : Value) (h0 : Heap) (n0 : Nat) (Z0 : n0 ≤ h0.size) (hd : d_ = Int32.ofNat dn) (hdn : dn < 16) (S1 : Sta Z h0 "java/lang/String" "COMPACT_STRINGS" "Z" (.int zc)) (hzc : ¬ zc = 0) (S2 : Sta Z h0 "jdk/internal/util/Preconditions" "SIOOBE_FORMATTER" "Ljava/util/function/BiFunction;" fm) (hfm : fm.isRef = true) (E_a1 : Exa Z h0 a1 "java/lang/String") (F_a1_coder : Fld Z h0 a1 "java/lang/String" "coder" "B" (.int (0 : Int32))) (F_a1_value : Fld Z h0 a1 "java/lang/String" "value" "[B" (.ref b1)) (A_b1 : own_Av Z h0 b1 .byte 16 (fun i => .int (own_lo i))) (E_a2 : Exa Z h0 a2 "java/lang/String") (F_a2_coder : Fld Z h0 a2 "java/lang/String" "coder" "B" (.int (0 : Int32))) (F_a2_value : Fld Z h0 a2 "java/lang/String" "value" "[B" (.ref b2)) (A_b2 : own_Av Z h0 b2 .byte 16 (fun i => .int (own_up i))) :
    MetFree l (⟨"com/example/ann_arbor/annarbor/http/wire/SyntaxHexValuePinLaw", "check", "(II)Z"⟩ : MethodName) (head1 (Jvm.Cond.code (⟨"com/example/ann_arbor/annarbor/http/wire/SyntaxHexValuePinLaw", "check", "(II)Z"⟩ : MethodName) method_3_code 7 (some .boolean) :: ws) ({ frames := 5, cells := 0, slots := 0, locals := 120 } : Room)) (fun aq Uq => aq = #[(.int c_), (.int d_)] ∧ Z.Warmed39 Uq.vm ∧ Uq.heap = h0 ∧ Lit (Z.setVm Uq.vm) "com/example/ann_arbor/annarbor/http/wire/SyntaxHexValuePinLaw" 13 a1 ∧ Lit (Z.setVm Uq.vm) "com/example/ann_arbor/annarbor/http/wire/SyntaxHexValuePinLaw" 15 a2) (fun _ _ _ _ _ => True) (fun _ Uq oq Uq' => ∃ vq Lq, oq = .returned vq ∧ own_q_own_r1b Z c_ d_ dn a1 b1 a2 b2 zc fm h0 n0 vq Uq'.heap Lq ∧ FrameEnd Uq oq Uq' Lq ({ frames := 5, cells := 0, slots := 0, locals := 120 } : Room).cells ({ frames := 5, cells := 0, slots := 0, locals := 120 } : Room).slots) := by
  refine MetFree.of_bodySF (plainFor_of_name own_pn_SyntaxHexValuePinLaw) hisR ?_
  intro p e s m args below meth c T0 Bd hml0 hP hK
  obtain ⟨rfl, hZ, hh, lit1, lit2⟩ := hP
  have hx := Bd.exec
  have hby := Bd.bytes
  have hml : c.maxLocals = 7 := hml0
  have hown : s.vm.findClass "com/example/ann_arbor/annarbor/http/wire/SyntaxHexValuePinLaw" = some m.cls := findClass_of_methodNamed Bd.named
  have hnm := (name_of_methodNamed Bd.named Bd.method).1
  have hret : meth.sig.returnType = (some .boolean) := Bd.returns
  have hlk : meth.locks = false := BodyLoose.notSynchronized Bd
  have X0 : Stand p l e ({ frames := 5, cells := 0, slots := 0, locals := 120 } : Room) s m #[(.int c_), (.int d_)] below meth c T0 [] 0 0 := Stand.of_body Bd
  have e0 : T0.heap = h0 := by rw [← hh, Bd.state]; rfl
  have N0 := Fr.nil n0
  refine own_start (own_ef1 m c_ d_) (Q := fun (v : Option Value) (h : Heap) (L : List Loc) => v = some (.int (1 : Int32)) ∧ Fr n0 L ∧ h = h0) (k := 0) (j := 0) ?_
  show own_Go p e below T0 (mkF m 0 #[.val (.int c_), .val (.int d_), .unset, .unset, .unset, .unset, .unset] []) _
  refine own_by (ldcAgain (vm0 := s.vm) X0 hx hZ hown (hw _ (List.mem_of_getElem? (i := 4) rfl)) lit1 (g := (mkF m 0 #[.val (.int c_), .val (.int d_), .unset, .unset, .unset, .unset, .unset] [])) rfl (hb hby own_d1_0)) ?_
  show own_Go p e below T0 (mkF m 2 #[.val (.int c_), .val (.int d_), .unset, .unset, .unset, .unset, .unset] [(.ref a1)]) _
  refine own_s_astoreN X0.here hx #[.val (.int c_), .val (.int d_), .val (.ref a1), .unset, .unset, .unset, .unset] (hb hby own_d1_2) rfl rfl ?_
  refine own_by (ldcAgain (vm0 := s.vm) X0 hx hZ hown (hw _ (List.mem_of_getElem? (i := 12) rfl)) lit2 (g := (mkF m 3 #[.val (.int c_), .val (.int d_), .val (.ref a1), .unset, .unset, .unset, .unset] [])) rfl (hb hby own_d1_3)) ?_
  show own_Go p e below T0 (mkF m 5 #[.val (.int c_), .val (.int d_), .val (.ref a1), .unset, .unset, .unset, .unset] [(.ref a2)]) _
  refine own_s_astoreN X0.here hx #[.val (.int c_), .val (.int d_), .val (.ref a1), .val (.ref a2), .unset, .unset, .unset] (hb hby own_d1_5) rfl rfl ?_
  exact own_p6b hx hZ hw hby hml hown hnm hret hlk  c_ d_ dn a1 b1 a2 b2 zc fm X0 e0 N0 Z0 hd hdn S1 hzc S2 hfm E_a1 F_a1_coder F_a1_value A_b1 E_a2 F_a2_coder F_a2_value A_b2
theorem own_d15 (x : Int32) : ∃ dn : Nat, (x &&& (15 : Int32)) = Int32.ofNat dn ∧ dn < 16 := by
  have e1 : (x &&& (15 : Int32)).toInt = x.toInt % 2 ^ 4 := Jvm.Kit.i32_mask x _ (k := 4) (by decide) (by decide)
  refine ⟨(x &&& (15 : Int32)).toInt.toNat, ?_, by omega⟩
  apply Int32.toInt_inj.mp
  rw [own_toI (by omega)]; omega
theorem own_pd_0 : parseMethodDescriptor "(II)Z" = some ⟨[.int, .int], some .boolean⟩ := by decide +kernel
set_option maxRecDepth 65536 in
set_option maxHeartbeats 40000000 in
theorem own_p10 {p : Program} {l : Launch} {e : Env} {s : State} {m : MethodId} {args : Array Value} {below : List Frame} {meth : Method} {c : Code} {Z : State} {a0 : Array Value} {n0 : Nat} (hx : p.tables.exec = Jvm.exec) (hZ : Z.Warmed39 s.vm) (hw : ∀ d ∈ tables_1, d.before a0 Z = true) (hby : c.code = code) (hml : c.maxLocals = 3) (hown : s.vm.findClass "com/example/ann_arbor/annarbor/http/wire/SyntaxHexValuePinLaw" = some m.cls) (hnm : meth.name = "law") (hret : meth.sig.returnType = (some .boolean)) (hlk : meth.locks = false) (c_ v_ : Int32) (dn kz : Nat) (a1 b1 a2 b2 : Addr) (zc : Int32) (fm : Value) {T0 : State} {locs : List Loc} {h0 : Heap} (X0 : Stand p l e room_1 s m args below meth c T0 locs 4 136) (e0 : T0.heap = h0) (N0 : Fr n0 locs) (Z0 : n0 ≤ h0.size) (hkz : kz ≤ h0.size) (hdn : dn < 16) (S1 : Sta Z h0 "java/lang/String" "COMPACT_STRINGS" "Z" (.int zc)) (hzc : ¬ zc = 0) (S2 : Sta Z h0 "jdk/internal/util/Preconditions" "SIOOBE_FORMATTER" "Ljava/util/function/BiFunction;" fm) (hfm : fm.isRef = true) (lit1 : Lit (Z.setVm s.vm) "com/example/ann_arbor/annarbor/http/wire/SyntaxHexValuePinLaw" 13 a1) (lit2 : Lit (Z.setVm s.vm) "com/example/ann_arbor/annarbor/http/wire/SyntaxHexValuePinLaw" 15 a2) (E_a1 : Exa Z h0 a1 "java/lang/String") (F_a1_coder : Fld Z h0 a1 "java/lang/String" "coder" "B" (.int (0 : Int32))) (F_a1_value : Fld Z h0 a1 "java/lang/String" "value" "[B" (.ref b1)) (A_b1 : own_Av Z h0 b1 .byte 16 (fun i => .int (own_lo i))) (E_a2 : Exa Z h0 a2 "java/lang/String") (F_a2_coder : Fld Z h0 a2 "java/lang/String" "coder" "B" (.int (0 : Int32))) (F_a2_value : Fld Z h0 a2 "java/lang/String" "value" "[B" (.ref b2)) (A_b2 : own_Av Z h0 b2 .byte 16 (fun i => .int (own_up i))) :
    own_Go p e below T0 (mkF m 10 #[.val (.int c_), .val (.int v_), .val (.int (Int32.ofNat dn))] [(.int (1 : Int32))]) (own_Fin s (fun (v : Option Value) (h : Heap) (L : List Loc) => (v = some (.int (1 : Int32)) ∧ Fr n0 L) ∧ kz ≤ h.size) 8 2112) := by
  show own_Go p e below T0 (mkF m 10 #[.val (.int c_), .val (.int v_), .val (.int (Int32.ofNat dn))] [(.int (1 : Int32))]) _
  have hPV : ∀ vm', s.WarmedH vm' → Lit (Z.setVm vm') "com/example/ann_arbor/annarbor/http/wire/SyntaxHexValuePinLaw" 13 a1 ∧ Lit (Z.setVm vm') "com/example/ann_arbor/annarbor/http/wire/SyntaxHexValuePinLaw" 15 a2 := fun vm' hW => ⟨Lit.stays (s := s) (vm0 := s.vm) lit1 hW.wide, Lit.stays (s := s) (vm0 := s.vm) lit2 hW.wide⟩
  refine own_s_ifNo X0.here hx (hb hby at_10) (Jvm.Free.XT.i0_eq_f ((by decide))) ?_
  refine own_s_iloadN X0.here hx (hb hby at_13) rfl ?_
  refine own_s_bipush X0.here hx (127 : Int32) (hb hby at_14) rfl ?_
  refine own_s_iand X0.here hx (hb hby at_16) ?_
  refine own_s_iloadN X0.here hx (hb hby at_17) rfl ?_
  obtain ⟨_, _, ⟨T25, L25, k25, n25⟩, -, X25, ⟨Lc25, hQ25, l25, y25, z25⟩, st25⟩ := Jvm.LawKit.callS X0 hx (y := (⟨"com/example/ann_arbor/annarbor/http/wire/SyntaxHexValuePinLaw", "check", "(II)Z"⟩ : MethodName)) hown (mvT hZ (hw _ (List.mem_of_getElem? (i := 0) rfl))) (mvT hZ (hw _ (List.mem_of_getElem? (i := 1) rfl))) (mvT hZ (hw _ (List.mem_of_getElem? (i := 2) rfl))) (mvT hZ (hw _ (List.mem_of_getElem? (i := 3) rfl))) (by decide) (own_backL (W := 0) hPV (own_r1b l Z a0 hw [] (c_ &&& (127 : Int32)) (Int32.ofNat dn) dn a1 b1 a2 b2 zc fm h0 n0 Z0 rfl hdn S1 hzc S2 hfm E_a1 F_a1_coder F_a1_value A_b1 E_a2 F_a2_coder F_a2_value A_b2) hZ (hw _ (List.mem_of_getElem? (i := 3) rfl)) (hw _ (List.mem_of_getElem? (i := 2) rfl)) (by decide) (by decide)) (g := (mkF m 18 #[.val (.int c_), .val (.int v_), .val (.int (Int32.ofNat dn))] [(.int (Int32.ofNat dn)), (.int (c_ &&& (127 : Int32)))])) rfl (by rw [hml]; rfl) (argsL := [(.int (c_ &&& (127 : Int32))), (.int (Int32.ofNat dn))]) (rest := []) (lenOf own_pd_0 rfl) rfl (by show 2 * 0 + _ ≤ _; exact Nat.le_of_eq rfl) (hb hby at_18) (fun _ _ => ⟨rfl, e0, (by decide : 4 + 0 ≤ _), (by decide : 136 + 0 ≤ _)⟩)
  dsimp only [Pt.U, Pt.locs, Pt.cells, Pt.slots] at X25 l25 y25 z25 st25 hQ25
  subst l25 y25 z25
  obtain ⟨rfl, N25q, e25⟩ := hQ25
  have N25 := Fr.app N0 N25q
  refine own_by st25 ?_
  show own_Go p e below T25 (mkF m 21 #[.val (.int c_), .val (.int v_), .val (.int (Int32.ofNat dn))] [(.int (1 : Int32))]) _
  refine own_s_ifNo X25.here hx (hb hby at_21) (Jvm.Free.XT.i0_eq_f ((by decide))) ?_
  refine own_s_iconst X25.here hx (1 : Int32) (hb hby at_24) rfl ?_
  show own_Go p e below T25 (mkF m 25 #[.val (.int c_), .val (.int v_), .val (.int (Int32.ofNat dn))] [(.int (1 : Int32))]) _
  refine own_s_goto X25.here hx 29 (hb hby at_25) (by decide) (by decide) ?_
  refine own_retZ X25 hx hret hlk (hb hby at_29) rfl (by decide) (by decide) ?_
  rw [e25]
  exact ⟨⟨rfl, N25⟩, hkz⟩
theorem own_ml : maxLocals = 3 := rfl
theorem own_ef0 (m : MethodId) (c_ : Int32) (v_ : Int32) : entryFrame m #[(.int c_), (.int v_)] maxLocals = mkF m 0 #[.val (.int c_), .val (.int v_), .unset] [] := by first | (simp [entryFrame, mkF, argsToLocals, Value.category, maxLocals]; done) | rfl
def own_q_own_r0 (Z : State) (c_ : Int32) (v_ : Int32) (zc : Int32) (fm : Value) (h0 : Heap) (n0 : Nat) (v : Option Value) (h : Heap) (L : List Loc) : Prop := v = some (.int (1 : Int32)) ∧ Fr n0 L
set_option maxRecDepth 65536 in
set_option maxHeartbeats 40000000 in
theorem own_r0 (l : Launch) (Z : State) (a0 : Array Value) (hw : ∀ d ∈ tables_1, d.before a0 Z = true) (ws : List Jvm.Cond) (c_ : Int32) (v_ : Int32) (zc : Int32) (fm : Value) (h0 : Heap) (n0 : Nat) (Z0 : n0 ≤ h0.size) (S1 : Sta Z h0 "java/lang/String" "COMPACT_STRINGS" "Z" (.int zc)) (hzc : ¬ zc = 0) (S2 : Sta Z h0 "jdk/internal/util/Preconditions" "SIOOBE_FORMATTER" "Ljava/util/function/BiFunction;" fm) (hfm : fm.isRef = true) (hh1 : Jvm.Lit.constHeld Z "com/example/ann_arbor/annarbor/http/wire/SyntaxHexValuePinLaw" 13) (hh2 : Jvm.Lit.constHeld Z "com/example/ann_arbor/annarbor/http/wire/SyntaxHexValuePinLaw" 15) (hcw : Jvm.Lit.compactW.before a0 Z = true) (hkeep : ∀ (b : Addr) (cl : Cell), Z.heap[b]? = some cl → h0[b]? = some cl) :
    MetFree l x (head1 (Jvm.Cond.code x code maxLocals ret :: ws) room_1) (fun aq Uq => aq = #[(.int c_), (.int v_)] ∧ Z.Warmed39 Uq.vm ∧ Uq.heap = h0 ∧ IB Z Uq.vm []) (fun _ _ _ _ _ => True) (fun _ Uq oq Uq' => ∃ vq Lq, oq = .returned vq ∧ own_q_own_r0 Z c_ v_ zc fm h0 n0 vq Uq'.heap Lq ∧ ReturnedEndW Uq oq Uq' Lq 8 2112) := by
  refine MetFree.of_bodySF (plainFor_of_name own_pn_SyntaxHexValuePinLaw) hisR ?_
  intro p e s m args below meth c T0 Bd hml0 hP hK
  obtain ⟨rfl, hZ, hh, hI⟩ := hP
  have hx := Bd.exec
  have hby := Bd.bytes
  have hml : c.maxLocals = 3 := hml0
  have hown : s.vm.findClass "com/example/ann_arbor/annarbor/http/wire/SyntaxHexValuePinLaw" = some m.cls := findClass_of_methodNamed Bd.named
  have hnm := (name_of_methodNamed Bd.named Bd.method).1
  have hret : meth.sig.returnType = (some .boolean) := Bd.returns
  have hlk : meth.locks = false := BodyLoose.notSynchronized Bd
  have X0 : Stand p l e room_1 s m #[(.int c_), (.int v_)] below meth c T0 [] 0 0 := Stand.of_body Bd
  have e0 : T0.heap = h0 := by rw [← hh, Bd.state]; rfl
  have N0 := Fr.nil n0
  refine own_startW (own_ef0 m c_ v_) (Q := fun (v : Option Value) (h : Heap) (L : List Loc) => v = some (.int (1 : Int32)) ∧ Fr n0 L) (k := 8) (j := 2112) ?_
  show own_Go p e below T0 (mkF m 0 #[.val (.int c_), .val (.int v_), .unset] []) _
  refine own_s_iloadN X0.here hx (hb hby at_0) rfl ?_
  refine own_s_bipush X0.here hx (15 : Int32) (hb hby at_1) rfl ?_
  refine own_s_iand X0.here hx (hb hby at_3) ?_
  obtain ⟨dn, hdn0, hdn⟩ := own_d15 v_
  rw [hdn0]
  show own_Go p e below T0 (mkF m 4 #[.val (.int c_), .val (.int v_), .unset] [(.int (Int32.ofNat dn))]) _
  refine own_s_istoreN X0.here hx #[.val (.int c_), .val (.int v_), .val (.int (Int32.ofNat dn))] (hb hby at_4) rfl ?_
  refine own_s_iloadN X0.here hx (hb hby at_5) rfl ?_
  refine own_s_iloadN X0.here hx (hb hby at_6) rfl ?_
  have hPV : ∀ vm', s.WarmedH vm' → IB Z vm' [] := fun vm' hW => by
    obtain ⟨more, q1, q2⟩ := hI
    exact ⟨more, (hW.interned_eq).trans q1, q2⟩
  obtain ⟨_, _, ⟨T26, L26, k26, n26⟩, -, X26, hS, hgr, ⟨Lc, hQ, l26, y26, z26⟩, st26⟩ := Jvm.RoadKit.callSS X0 hx (y := (⟨"com/example/ann_arbor/annarbor/http/wire/SyntaxHexValuePinLaw", "check", "(II)Z"⟩ : MethodName)) hown (mvT hZ (hw _ (List.mem_of_getElem? (i := 0) rfl))) (mvT hZ (hw _ (List.mem_of_getElem? (i := 1) rfl))) (mvT hZ (hw _ (List.mem_of_getElem? (i := 2) rfl))) (mvT hZ (hw _ (List.mem_of_getElem? (i := 3) rfl))) (by decide) (own_backW (W := 0) hPV (own_r1a l Z a0 hw [] c_ (Int32.ofNat dn) dn zc fm h0 n0 Z0 rfl hdn S1 hzc S2 hfm hh1 hh2 hcw hkeep) hZ (hw _ (List.mem_of_getElem? (i := 3) rfl)) (hw _ (List.mem_of_getElem? (i := 2) rfl)) (by decide) (by decide)) (g := (mkF m 7 #[.val (.int c_), .val (.int v_), .val (.int (Int32.ofNat dn))] [(.int (Int32.ofNat dn)), (.int c_)])) rfl (by rw [hml]; rfl) (argsL := [(.int c_), (.int (Int32.ofNat dn))]) (rest := []) (lenOf own_pd_0 rfl) rfl (by show 2 * 0 + _ ≤ _; exact Nat.le_of_eq rfl) (hb hby at_7) (fun _ _ => ⟨rfl, e0, (by decide : 0 + 4 ≤ _), (by decide : 0 + 136 ≤ _)⟩)
  dsimp only [Pt.U, Pt.locs, Pt.cells, Pt.slots] at X26 l26 y26 z26 st26 hQ hS hgr
  subst l26 y26 z26
  obtain ⟨rfl, Nq, Ex, a1, b1, a2, b2, lit1, lit2, x1, fc1, fv1, A1, x2, fc2, fv2, A2⟩ := hQ
  have hZ' : Z.Warmed39 (s.setVm T26.vm).vm := State.Warmed39.trans (t := s) hZ hS.1
  have hown' : (s.setVm T26.vm).vm.findClass "com/example/ann_arbor/annarbor/http/wire/SyntaxHexValuePinLaw" = some m.cls := by
    rw [show (s.setVm T26.vm).vm = T26.vm from rfl, hS.1.alike.findClass]; exact hown
  refine own_by (fun t k => st26.trans k) ?_
  refine own_toW hS ?_
  exact own_p10 hx hZ' hw hby hml hown' hnm hret hlk c_ v_ dn _ a1 b1 a2 b2 zc fm X26 rfl (Fr.app N0 Nq) (Nat.le_trans Z0 Ex.1) (Nat.le_refl _) hdn (Sta.ext Ex S1) hzc (Sta.ext Ex S2) hfm lit1 lit2 x1 fc1 fv1 A1 x2 fc2 fv2 A2
set_option maxRecDepth 65536 in
set_option maxHeartbeats 40000000 in
theorem own_comes {Post : Tables → Env → Array Value → State → Outcome → State → Prop} (hpost : ∀ tb e args s v u, (limb_1_1.after args s (.returned v) u = true ∧ limb_1_2.after args s (.returned v) u = true ∧ True) → ReturnedEndW s (.returned v) u (Jvm.fieldLocs frame_1_writes args s ++ Jvm.arrayLocs frame_1_arrays args s ++ Jvm.staticLocs frame_1_statics s) 8 2112 → Post tb e args s (.returned v) u) :
    ArmFor flags0 classFile x code maxLocals ret World_1 tables_1 room_1 Calls_1 rest_1 Pre_1 Post := by
  intro l hfl _ _ p e ha hc hk s m args below hf hA hF happ hP
  obtain ⟨hcalls, hrest, hpre⟩ := hP
  obtain ⟨-, -, -, hnamed, -, -, -, hat⟩ := (Spec.applies_iff hf).mp happ
  obtain ⟨hg, hn⟩ := and_e (Cond.before_iff.mp (show (Jvm.Cond.and given_1 narrow_1).before args s = true from hpre))
  obtain ⟨g1, g2⟩ := and_e hg
  obtain ⟨g3, g4⟩ := and_e g2
  obtain ⟨w0, w1, rfl⟩ : ∃ w0 w1 : Value, args = #[w0, w1] := by
    have hs : args.size = 2 := by simpa [Cond.value, given_1] using g1
    obtain ⟨L⟩ := args
    match L, hs with
    | [w0, w1], _ => exact ⟨w0, w1, rfl⟩
  have hw := fun d (hd : d ∈ tables_1) => atoms_spec (ws := Jvm.Cond.code x code maxLocals ret :: tables_1) hat d (List.mem_cons_of_mem _ hd)
  obtain ⟨i0, ei0⟩ := is_v g3
  obtain rfl : w0 = (.int i0) := Option.some.inj ei0
  obtain ⟨i1, ei1⟩ := is_v g4
  obtain rfl : w1 = (.int i1) := Option.some.inj ei1
  obtain ⟨hsets, hown0⟩ := atoms_of _ (rest_1_c_eq ▸ (show rest_1_c.before _ s = true from hrest))
  have n5 := not_v (Cond.before_iff.mp (hsets _ (List.mem_of_getElem? (i := 2) rfl)))
  obtain ⟨zc, ezc⟩ := is_v (Cond.before_iff.mp (hsets _ (List.mem_of_getElem? (i := 1) rfl)))
  have S1 : Sta s s.heap "java/lang/String" "COMPACT_STRINGS" "Z" (.int zc) := Sta.start ezc (Or.inl (hsets _ (List.mem_of_getElem? (i := 0) rfl)))
  obtain ⟨fm, efm, hfm⟩ := isR_v (Cond.before_iff.mp (hsets _ (List.mem_of_getElem? (i := 8) rfl)))
  have S2 : Sta s s.heap "jdk/internal/util/Preconditions" "SIOOBE_FORMATTER" "Ljava/util/function/BiFunction;" fm := Sta.start efm (Or.inl (hsets _ (List.mem_of_getElem? (i := 7) rfl)))
  have hzc : ¬ (zc = (0 : Int32)) := gotF (Cond.eq_ints ezc (Term.int_eval (0))) n5
  have hcw : Jvm.Lit.compactW.before #[.int i0, .int i1] s = true := hsets _ (List.mem_of_getElem? (i := 2) rfl)
  have hh1 : Jvm.Lit.constHeld s "com/example/ann_arbor/annarbor/http/wire/SyntaxHexValuePinLaw" 13 := hcalls.1 ("com/example/ann_arbor/annarbor/http/wire/SyntaxHexValuePinLaw", 13) (by simp [consts_1])
  have hh2 : Jvm.Lit.constHeld s "com/example/ann_arbor/annarbor/http/wire/SyntaxHexValuePinLaw" 15 := hcalls.1 ("com/example/ann_arbor/annarbor/http/wire/SyntaxHexValuePinLaw", 15) (by simp [consts_1])
  obtain ⟨n, o, h1, h2, h3, _, L, rfl, ⟨rfl, N⟩, hq⟩ := own_r0 l s _ hw tables_1 i0 i1 zc fm s.heap s.heap.size (Nat.le_refl _) S1 hzc S2 hfm hh1 hh2 hcw (fun _ _ q => q) p e ha hc hk s m _ below hf ((Spec.applies_iff_loose hf).mp happ).1 ⟨rfl, State.Warmed39.refl s, rfl, IB.start⟩ trivial
  refine ⟨n, _, h1, h2, h3, hpost _ _ _ _ _ _ ⟨Cond.after_iff.mpr rfl, Cond.after_iff.mpr (eq_i res_at (Term.int_eval (1)) rfl), trivial⟩ ⟨hq.1, hq.2.1, hq.2.2.1, (hq.2.2.2.sift fun y hy => Or.inr (N y hy)).mono (by decide) (by decide)⟩⟩
theorem main_1_1 : Claimed_1_1 := own_comes fun _ _ _ _ _ _ h hF => ⟨h.1, hF⟩
theorem main_1_2 : Claimed_1_2 := own_comes fun _ _ _ _ _ _ h hF => ⟨h.2.1, hF⟩
end Jvm.Pilot.@@N@@
namespace Jvm.Pilot.@@N@@
open Jvm Jvm.ClassFile Sem Op Lib Jvm.Free Jvm.Stand Jvm.Pilot.@@N@@.Jvm.D
/-! MADE BY PROGRAM (witnessworld.py) out of the Statement's table words and the real class files: 17 classes; the members and pool entries that the words name. The judged class is class 1, her method 1. -/
namespace start1
open Jvm.ClassFile
def u (s : String) : CpInfo := .utf8 (stringToUtf16 s)
/-- a pool by its gaps: so many unusable entries, then the entry; so many at the end -/
def gap : Nat → List CpInfo → List CpInfo
  | 0, r => r
  | n + 1, r => .unusable :: gap n r
def poolList (es : List (Nat × CpInfo)) (last : Nat) : List CpInfo := es.foldr (fun e r => gap e.1 (e.2 :: r)) (gap last [])
def pool (es : List (Nat × CpInfo)) (last : Nat) : Array CpInfo := ⟨poolList es last⟩
def fileOf (pool : Array CpInfo) (this : Nat) (attrs : Array Attribute := #[]) (ms : Array MethodInfo := #[]) (fl : Nat := 33) (sup : Nat := 0) (ifs : Array Nat := #[]) (fds : Array FieldInfo := #[]) : ClassFile where
  minorVersion := 0
  majorVersion := 65
  constantPool := pool
  accessFlags := fl
  thisClass := this
  superClass := sup
  interfaces := ifs
  fields := fds
  methods := ms
  attributes := attrs
def plain (name : String) (sup : Option ClassId) : Class where
  name := name
  kind := .ordinary
  loader := none
  accessFlags := 33
  super := sup
  interfaces := #[]
  cf := none
  fields := #[]
  methods := #[]
  instanceTypes := #[]
  staticTypes := #[]
  resolved := #[]
  callSites := []
  init := .initialized
  statics := none
  mirror := none

def pool0 : Array CpInfo := pool [(5, u "<init>"), (0, u "()V"), (1, .class_ 10), (1, u "java/lang/Object")] 113

def k0m0 : Method := { name := "<init>", desc := "()V", sig := { parameters := [], returnType := none }, accessFlags := 1, code := none }
/-- java/lang/Object -/
def k0 : Class := { plain "java/lang/Object" none with
  accessFlags := 33
  interfaces := #[]
  cf := some (fileOf pool0 8 #[] #[{ accessFlags := 1, nameIndex := 5, descriptorIndex := 6, attributes := #[] }] 33 0 #[] #[])
  fields := #[]
  methods := #[k0m0]
  instanceTypes := #[]
  staticTypes := #[]
  resolved := Array.replicate 124 none
  statics := none }

def pool1 : Array CpInfo := pool [(2, .class_ 4), (1, u "java/lang/Object"), (0, u "<init>"), (0, u "()V"), (0, .methodref 8 9), (0, .class_ 10), (0, .nameAndType 11 12), (0, u "com/example/ann_arbor/annarbor/http/wire/SyntaxHexValuePinLaw"), (0, u "check"), (0, u "(II)Z"), (0, .string 14), (0, u "0123456789abcdef"), (0, .string 16), (0, u "0123456789ABCDEF"), (0, .methodref 18 19), (0, .class_ 20), (0, .nameAndType 21 22), (0, u "java/lang/String"), (0, u "charAt"), (0, u "(I)C"), (0, .methodref 24 25), (0, .class_ 26), (0, .nameAndType 27 28), (0, u "com/example/ann_arbor/annarbor/http/wire/Syntax"), (0, u "hexValue"), (0, u "(I)I"), (2, u "law")] 3

def k1m0 : Method := { name := "<init>", desc := "()V", sig := { parameters := [], returnType := none }, accessFlags := 2, code := none }
def k1c1 : Code := { maxStack := 2, maxLocals := 3, code := code, exceptionTable := #[], attributes := #[] }
def k1m1 : Method := { name := "law", desc := "(II)Z", sig := { parameters := [.int, .int], returnType := some .boolean }, accessFlags := 9, code := some k1c1 }
def k1c2 : Code := { maxStack := 3, maxLocals := 7, code := method_3_code, exceptionTable := #[], attributes := #[] }
def k1m2 : Method := { name := "check", desc := "(II)Z", sig := { parameters := [.int, .int], returnType := some .boolean }, accessFlags := 10, code := some k1c2 }
/-- com/example/ann_arbor/annarbor/http/wire/SyntaxHexValuePinLaw -/
def k1 : Class := { plain "com/example/ann_arbor/annarbor/http/wire/SyntaxHexValuePinLaw" (some 0) with
  accessFlags := 49
  interfaces := #[]
  cf := some (fileOf pool1 8 #[] #[{ accessFlags := 2, nameIndex := 5, descriptorIndex := 6, attributes := #[] }, { accessFlags := 9, nameIndex := 31, descriptorIndex := 12, attributes := #[] }, { accessFlags := 10, nameIndex := 11, descriptorIndex := 12, attributes := #[] }] 49 2 #[] #[])
  fields := #[]
  methods := #[k1m0, k1m1, k1m2]
  instanceTypes := #[]
  staticTypes := #[]
  resolved := Array.replicate 35 none
  statics := none }

def pool2 : Array CpInfo := pool [(1, .class_ 2), (0, u "java/io/Serializable"), (0, .class_ 4), (0, u "java/lang/Object")] 2

/-- java/io/Serializable -/
def k2 : Class := { plain "java/io/Serializable" (some 0) with
  accessFlags := 1537
  interfaces := #[]
  cf := some (fileOf pool2 1 #[] #[] 1537 3 #[] #[])
  fields := #[]
  methods := #[]
  instanceTypes := #[]
  staticTypes := #[]
  resolved := Array.replicate 7 none
  statics := none }

def pool3 : Array CpInfo := pool [(1, .class_ 2), (0, u "java/lang/Comparable"), (0, .class_ 4), (0, u "java/lang/Object")] 7

/-- java/lang/Comparable -/
def k3 : Class := { plain "java/lang/Comparable" (some 0) with
  accessFlags := 1537
  interfaces := #[]
  cf := some (fileOf pool3 1 #[] #[] 1537 3 #[] #[])
  fields := #[]
  methods := #[]
  instanceTypes := #[]
  staticTypes := #[]
  resolved := Array.replicate 12 none
  statics := none }

def pool4 : Array CpInfo := pool [(2, .class_ 4), (1, u "java/lang/CharSequence"), (42, .class_ 48), (0, u "java/lang/CharSequence$1CodePointIterator"), (10, .class_ 60), (0, u "java/lang/CharSequence$1CharIterator"), (5, .class_ 67), (0, u "java/lang/Object")] 63

/-- java/lang/CharSequence -/
def k4 : Class := { plain "java/lang/CharSequence" (some 0) with
  accessFlags := 1537
  interfaces := #[]
  cf := some (fileOf pool4 2 #[.nestMembers #[47, 59]] #[] 1537 66 #[] #[])
  fields := #[]
  methods := #[]
  instanceTypes := #[]
  staticTypes := #[]
  resolved := Array.replicate 131 none
  statics := none }

def pool5 : Array CpInfo := pool [(1, .class_ 2), (0, u "java/lang/constant/Constable"), (0, .class_ 4), (0, u "java/lang/Object")] 6

/-- java/lang/constant/Constable -/
def k5 : Class := { plain "java/lang/constant/Constable" (some 0) with
  accessFlags := 1537
  interfaces := #[]
  cf := some (fileOf pool5 1 #[] #[] 1537 3 #[] #[])
  fields := #[]
  methods := #[]
  instanceTypes := #[]
  staticTypes := #[]
  resolved := Array.replicate 11 none
  statics := none }

def pool6 : Array CpInfo := pool [(1, .class_ 2), (0, u "java/lang/constant/ConstantDesc"), (0, .class_ 4), (0, u "java/lang/Object")] 32

/-- java/lang/constant/ConstantDesc -/
def k6 : Class := { plain "java/lang/constant/ConstantDesc" (some 0) with
  accessFlags := 1537
  interfaces := #[]
  cf := some (fileOf pool6 1 #[] #[] 1537 3 #[] #[])
  fields := #[]
  methods := #[]
  instanceTypes := #[]
  staticTypes := #[]
  resolved := Array.replicate 37 none
  statics := none }

def pool7 : Array CpInfo := pool [(2, .class_ 4), (1, u "java/lang/Object"), (0, u "<init>"), (0, u "()V"), (2, .fieldref 10 11), (0, .class_ 12), (0, .nameAndType 13 14), (0, u "java/lang/String"), (0, u "value"), (0, u "[B"), (0, .fieldref 10 16), (0, .nameAndType 17 18), (0, u "coder"), (0, u "B"), (2, u "hash"), (0, u "I"), (2, u "hashIsZero"), (0, u "Z"), (11, .fieldref 10 39), (0, .nameAndType 40 26), (0, u "COMPACT_STRINGS"), (66, .class_ 109), (1, u "java/lang/StringLatin1"), (32, u "()Z"), (220, u "([BI)C"), (27, u "(II)V"), (35, u "(I)C"), (64, .methodref 10 493), (0, .nameAndType 494 142), (0, u "isLatin1"), (0, .methodref 107 496), (0, .nameAndType 497 363), (0, u "charAt"), (3, u "checkIndex"), (73, .class_ 576), (0, u "java/lang/CharSequence"), (22, u "CASE_INSENSITIVE_ORDER"), (0, u "Ljava/util/Comparator;"), (452, .fieldref 1054 1055), (0, .class_ 1056), (0, .nameAndType 1057 1058), (0, u "jdk/internal/util/Preconditions"), (0, u "SIOOBE_FORMATTER"), (0, u "Ljava/util/function/BiFunction;"), (0, .methodref 1054 1060), (0, .nameAndType 501 1061), (0, u "(IILjava/util/function/BiFunction;)I"), (39, u "serialPersistentFields"), (0, u "[Ljava/io/ObjectStreamField;"), (0, .class_ 1104), (0, u "java/lang/String$CaseInsensitiveComparator"), (1, .class_ 1107), (0, u "java/io/Serializable"), (0, .class_ 1109), (0, u "java/lang/Comparable"), (0, .class_ 1111), (0, u "java/lang/constant/Constable"), (0, .class_ 1113), (0, u "java/lang/constant/ConstantDesc"), (2, u "serialVersionUID"), (0, u "J"), (3, u "REPL"), (0, u "C"), (2, u "LATIN1"), (1, u "UTF16")] 323

def k7m0 : Method := { name := "<init>", desc := "()V", sig := { parameters := [], returnType := none }, accessFlags := 1, code := none }
def k7c1 : Code := { maxStack := 2, maxLocals := 2, code := jdk_42_method_56_code, exceptionTable := #[], attributes := #[] }
def k7m1 : Method := { name := "charAt", desc := "(I)C", sig := { parameters := [.int], returnType := some .char }, accessFlags := 1, code := some k7c1 }
def k7c2 : Code := { maxStack := 1, maxLocals := 1, code := jdk_42_method_154_code, exceptionTable := #[], attributes := #[] }
def k7m2 : Method := { name := "isLatin1", desc := "()Z", sig := { parameters := [], returnType := some .boolean }, accessFlags := 0, code := some k7c2 }
def k7c3 : Code := { maxStack := 3, maxLocals := 2, code := jdk_42_method_155_code, exceptionTable := #[], attributes := #[] }
def k7m3 : Method := { name := "checkIndex", desc := "(II)V", sig := { parameters := [.int, .int], returnType := none }, accessFlags := 8, code := some k7c3 }
/-- java/lang/String -/
def k7 : Class := { plain "java/lang/String" (some 0) with
  accessFlags := 49
  interfaces := #[2, 3, 4, 5, 6]
  cf := some (fileOf pool7 10 #[.nestMembers #[1103]] #[{ accessFlags := 1, nameIndex := 5, descriptorIndex := 6, attributes := #[] }, { accessFlags := 1, nameIndex := 497, descriptorIndex := 427, attributes := #[] }, { accessFlags := 0, nameIndex := 494, descriptorIndex := 142, attributes := #[] }, { accessFlags := 8, nameIndex := 501, descriptorIndex := 391, attributes := #[] }] 49 2 #[1106, 1108, 575, 1110, 1112] #[{ accessFlags := 18, nameIndex := 13, descriptorIndex := 14, attributes := #[] }, { accessFlags := 18, nameIndex := 17, descriptorIndex := 18, attributes := #[] }, { accessFlags := 2, nameIndex := 21, descriptorIndex := 22, attributes := #[] }, { accessFlags := 2, nameIndex := 25, descriptorIndex := 26, attributes := #[] }, { accessFlags := 26, nameIndex := 1116, descriptorIndex := 1117, attributes := #[] }, { accessFlags := 24, nameIndex := 40, descriptorIndex := 26, attributes := #[] }, { accessFlags := 26, nameIndex := 1101, descriptorIndex := 1102, attributes := #[] }, { accessFlags := 26, nameIndex := 1121, descriptorIndex := 1122, attributes := #[] }, { accessFlags := 25, nameIndex := 599, descriptorIndex := 600, attributes := #[] }, { accessFlags := 24, nameIndex := 1125, descriptorIndex := 18, attributes := #[] }, { accessFlags := 24, nameIndex := 1127, descriptorIndex := 18, attributes := #[] }])
  fields := #[{ name := "value", type := (.array .byte), accessFlags := 18, slot := 0, constantValue := 0 }, { name := "coder", type := .byte, accessFlags := 18, slot := 1, constantValue := 0 }, { name := "hash", type := .int, accessFlags := 2, slot := 2, constantValue := 0 }, { name := "hashIsZero", type := .boolean, accessFlags := 2, slot := 3, constantValue := 0 }, { name := "serialVersionUID", type := .long, accessFlags := 26, slot := 0, constantValue := 0 }, { name := "COMPACT_STRINGS", type := .boolean, accessFlags := 24, slot := 1, constantValue := 0 }, { name := "serialPersistentFields", type := (.array (.object "java/io/ObjectStreamField")), accessFlags := 26, slot := 2, constantValue := 0 }, { name := "REPL", type := .char, accessFlags := 26, slot := 3, constantValue := 0 }, { name := "CASE_INSENSITIVE_ORDER", type := (.object "java/util/Comparator"), accessFlags := 25, slot := 4, constantValue := 0 }, { name := "LATIN1", type := .byte, accessFlags := 24, slot := 5, constantValue := 0 }, { name := "UTF16", type := .byte, accessFlags := 24, slot := 6, constantValue := 0 }]
  methods := #[k7m0, k7m1, k7m2, k7m3]
  instanceTypes := #[(.array .byte), .byte, .int, .boolean]
  staticTypes := #[.long, .boolean, (.array (.object "java/io/ObjectStreamField")), .char, (.object "java/util/Comparator"), .byte, .byte]
  resolved := Array.replicate 1451 none
  statics := some 0 }

def pool8 : Array CpInfo := pool [(1, .class_ 2), (0, u "java/lang/String"), (1, .class_ 6), (1, u "java/lang/Object"), (0, u "<init>"), (0, u "()V"), (0, .methodref 1 10), (0, .nameAndType 11 12), (0, u "checkIndex"), (0, u "(II)V"), (1, .class_ 16), (1, u "java/lang/StringLatin1"), (36, u "([BI)C"), (67, u "$assertionsDisabled"), (0, u "Z"), (98, .class_ 223), (1, u "java/lang/StringLatin1$LinesSpliterator"), (28, u "charAt"), (137, .class_ 391), (0, u "java/lang/StringLatin1$CharsSpliterator")] 3

def k8m0 : Method := { name := "<init>", desc := "()V", sig := { parameters := [], returnType := none }, accessFlags := 0, code := none }
def k8c1 : Code := { maxStack := 2, maxLocals := 2, code := jdk_43_method_2_code, exceptionTable := #[], attributes := #[] }
def k8m1 : Method := { name := "charAt", desc := "([BI)C", sig := { parameters := [(.array .byte), .int], returnType := some .char }, accessFlags := 9, code := some k8c1 }
/-- java/lang/StringLatin1 -/
def k8 : Class := { plain "java/lang/StringLatin1" (some 0) with
  accessFlags := 48
  interfaces := #[]
  cf := some (fileOf pool8 14 #[.nestMembers #[390, 221]] #[{ accessFlags := 0, nameIndex := 7, descriptorIndex := 8, attributes := #[] }, { accessFlags := 9, nameIndex := 252, descriptorIndex := 53, attributes := #[] }] 48 4 #[] #[{ accessFlags := 4120, nameIndex := 121, descriptorIndex := 122, attributes := #[] }])
  fields := #[{ name := "$assertionsDisabled", type := .boolean, accessFlags := 4120, slot := 0, constantValue := 0 }]
  methods := #[k8m0, k8m1]
  instanceTypes := #[]
  staticTypes := #[.boolean]
  resolved := Array.replicate 395 none
  statics := none }

def pool9 : Array CpInfo := pool [(2, .class_ 4), (1, u "java/lang/Object"), (0, u "<init>"), (0, u "()V"), (17, .class_ 26), (1, u "jdk/internal/util/Preconditions"), (6, u "checkIndex"), (21, .class_ 56), (0, u "jdk/internal/util/Preconditions$4"), (57, .class_ 115), (0, u "jdk/internal/util/Preconditions$1"), (7, u "SIOOBE_FORMATTER"), (0, u "Ljava/util/function/BiFunction;"), (0, .class_ 126), (0, u "jdk/internal/util/Preconditions$2"), (3, u "AIOOBE_FORMATTER"), (0, .class_ 132), (0, u "jdk/internal/util/Preconditions$3"), (3, u "IOOBE_FORMATTER"), (41, u "(IILjava/util/function/BiFunction;)I")] 15

def k9m0 : Method := { name := "<init>", desc := "()V", sig := { parameters := [], returnType := none }, accessFlags := 1, code := none }
def k9c1 : Code := { maxStack := 3, maxLocals := 3, code := jdk_41_method_11_code, exceptionTable := #[], attributes := #[] }
def k9m1 : Method := { name := "checkIndex", desc := "(IILjava/util/function/BiFunction;)I", sig := { parameters := [.int, .int, (.object "java/util/function/BiFunction")], returnType := some .int }, accessFlags := 9, code := some k9c1 }
/-- jdk/internal/util/Preconditions -/
def k9 : Class := { plain "jdk/internal/util/Preconditions" (some 0) with
  accessFlags := 33
  interfaces := #[]
  cf := some (fileOf pool9 24 #[.nestMembers #[55, 131, 125, 114]] #[{ accessFlags := 1, nameIndex := 5, descriptorIndex := 6, attributes := #[] }, { accessFlags := 9, nameIndex := 33, descriptorIndex := 178, attributes := #[] }] 33 2 #[] #[{ accessFlags := 25, nameIndex := 123, descriptorIndex := 124, attributes := #[] }, { accessFlags := 25, nameIndex := 130, descriptorIndex := 124, attributes := #[] }, { accessFlags := 25, nameIndex := 136, descriptorIndex := 124, attributes := #[] }])
  fields := #[{ name := "SIOOBE_FORMATTER", type := (.object "java/util/function/BiFunction"), accessFlags := 25, slot := 0, constantValue := 0 }, { name := "AIOOBE_FORMATTER", type := (.object "java/util/function/BiFunction"), accessFlags := 25, slot := 1, constantValue := 0 }, { name := "IOOBE_FORMATTER", type := (.object "java/util/function/BiFunction"), accessFlags := 25, slot := 2, constantValue := 0 }]
  methods := #[k9m0, k9m1]
  instanceTypes := #[]
  staticTypes := #[(.object "java/util/function/BiFunction"), (.object "java/util/function/BiFunction"), (.object "java/util/function/BiFunction")]
  resolved := Array.replicate 194 none
  statics := some 1 }

def pool10 : Array CpInfo := pool [(1, .class_ 2), (0, u "com/example/ann_arbor/annarbor/http/wire/Syntax"), (1, .class_ 6), (1, u "java/lang/Object"), (0, u "<init>"), (0, u "()V"), (23, u "(I)I"), (7, u "TOKEN_SYMBOLS"), (0, u "Ljava/lang/String;"), (1, u "NAME_SYMBOLS"), (0, u "TARGET_SYMBOLS"), (9, u "hexValue")] 3

def k10m0 : Method := { name := "<init>", desc := "()V", sig := { parameters := [], returnType := none }, accessFlags := 2, code := none }
def k10c1 : Code := { maxStack := 2, maxLocals := 1, code := prog_18_method_7_code, exceptionTable := #[], attributes := #[] }
def k10m1 : Method := { name := "hexValue", desc := "(I)I", sig := { parameters := [.int], returnType := some .int }, accessFlags := 8, code := some k10c1 }
/-- com/example/ann_arbor/annarbor/http/wire/Syntax -/
def k10 : Class := { plain "com/example/ann_arbor/annarbor/http/wire/Syntax" (some 0) with
  accessFlags := 48
  interfaces := #[]
  cf := some (fileOf pool10 1 #[] #[{ accessFlags := 2, nameIndex := 7, descriptorIndex := 8, attributes := #[] }, { accessFlags := 8, nameIndex := 54, descriptorIndex := 32, attributes := #[] }] 48 4 #[] #[{ accessFlags := 26, nameIndex := 40, descriptorIndex := 41, attributes := #[] }, { accessFlags := 26, nameIndex := 43, descriptorIndex := 41, attributes := #[] }, { accessFlags := 26, nameIndex := 44, descriptorIndex := 41, attributes := #[] }])
  fields := #[{ name := "TOKEN_SYMBOLS", type := (.object "java/lang/String"), accessFlags := 26, slot := 0, constantValue := 0 }, { name := "NAME_SYMBOLS", type := (.object "java/lang/String"), accessFlags := 26, slot := 1, constantValue := 0 }, { name := "TARGET_SYMBOLS", type := (.object "java/lang/String"), accessFlags := 26, slot := 2, constantValue := 0 }]
  methods := #[k10m0, k10m1]
  instanceTypes := #[]
  staticTypes := #[(.object "java/lang/String"), (.object "java/lang/String"), (.object "java/lang/String")]
  resolved := Array.replicate 58 none
  statics := none }

def pool11 : Array CpInfo := pool [(9, u "<init>"), (6, .class_ 18), (1, u "java/lang/Object"), (0, u "()V"), (1, .class_ 23), (1, u "jdk/internal/util/ArraysSupport"), (0, u "LOG2_ARRAY_LONG_INDEX_SCALE"), (0, u "I"), (2, u "U"), (0, u "Ljdk/internal/misc/Unsafe;"), (8, u "BIG_ENDIAN"), (0, u "Z"), (8, u "LOG2_BYTE_BIT_SIZE"), (4, u "LOG2_ARRAY_INT_INDEX_SCALE"), (54, u "JLA"), (0, u "Ljdk/internal/access/JavaLangAccess;"), (11, u "LOG2_ARRAY_BOOLEAN_INDEX_SCALE"), (9, u "LOG2_ARRAY_BYTE_INDEX_SCALE"), (5, u "LOG2_ARRAY_CHAR_INDEX_SCALE"), (5, u "LOG2_ARRAY_SHORT_INDEX_SCALE"), (18, u "LOG2_ARRAY_FLOAT_INDEX_SCALE"), (24, u "LOG2_ARRAY_DOUBLE_INDEX_SCALE"), (89, u "T_BOOLEAN"), (2, u "T_CHAR"), (1, u "T_FLOAT"), (1, u "T_DOUBLE"), (1, u "T_BYTE"), (1, u "T_SHORT"), (1, u "T_INT"), (1, u "T_LONG"), (1, u "SOFT_MAX_ARRAY_LENGTH")] 83

def k11m0 : Method := { name := "<init>", desc := "()V", sig := { parameters := [], returnType := none }, accessFlags := 2, code := none }
/-- jdk/internal/util/ArraysSupport -/
def k11 : Class := { plain "jdk/internal/util/ArraysSupport" (some 0) with
  accessFlags := 33
  interfaces := #[]
  cf := some (fileOf pool11 21 #[] #[{ accessFlags := 2, nameIndex := 9, descriptorIndex := 19, attributes := #[] }] 33 16 #[] #[{ accessFlags := 24, nameIndex := 28, descriptorIndex := 29, attributes := #[] }, { accessFlags := 26, nameIndex := 38, descriptorIndex := 39, attributes := #[] }, { accessFlags := 25, nameIndex := 121, descriptorIndex := 25, attributes := #[] }, { accessFlags := 25, nameIndex := 131, descriptorIndex := 25, attributes := #[] }, { accessFlags := 25, nameIndex := 137, descriptorIndex := 25, attributes := #[] }, { accessFlags := 25, nameIndex := 143, descriptorIndex := 25, attributes := #[] }, { accessFlags := 25, nameIndex := 53, descriptorIndex := 25, attributes := #[] }, { accessFlags := 25, nameIndex := 24, descriptorIndex := 25, attributes := #[] }, { accessFlags := 25, nameIndex := 162, descriptorIndex := 25, attributes := #[] }, { accessFlags := 25, nameIndex := 187, descriptorIndex := 25, attributes := #[] }, { accessFlags := 26, nameIndex := 48, descriptorIndex := 25, attributes := #[] }, { accessFlags := 25, nameIndex := 277, descriptorIndex := 25, attributes := #[] }, { accessFlags := 25, nameIndex := 280, descriptorIndex := 25, attributes := #[] }, { accessFlags := 25, nameIndex := 282, descriptorIndex := 25, attributes := #[] }, { accessFlags := 25, nameIndex := 284, descriptorIndex := 25, attributes := #[] }, { accessFlags := 25, nameIndex := 286, descriptorIndex := 25, attributes := #[] }, { accessFlags := 25, nameIndex := 288, descriptorIndex := 25, attributes := #[] }, { accessFlags := 25, nameIndex := 290, descriptorIndex := 25, attributes := #[] }, { accessFlags := 25, nameIndex := 292, descriptorIndex := 25, attributes := #[] }, { accessFlags := 26, nameIndex := 108, descriptorIndex := 109, attributes := #[] }, { accessFlags := 25, nameIndex := 294, descriptorIndex := 25, attributes := #[] }])
  fields := #[{ name := "U", type := (.object "jdk/internal/misc/Unsafe"), accessFlags := 24, slot := 0, constantValue := 0 }, { name := "BIG_ENDIAN", type := .boolean, accessFlags := 26, slot := 1, constantValue := 0 }, { name := "LOG2_ARRAY_BOOLEAN_INDEX_SCALE", type := .int, accessFlags := 25, slot := 2, constantValue := 0 }, { name := "LOG2_ARRAY_BYTE_INDEX_SCALE", type := .int, accessFlags := 25, slot := 3, constantValue := 0 }, { name := "LOG2_ARRAY_CHAR_INDEX_SCALE", type := .int, accessFlags := 25, slot := 4, constantValue := 0 }, { name := "LOG2_ARRAY_SHORT_INDEX_SCALE", type := .int, accessFlags := 25, slot := 5, constantValue := 0 }, { name := "LOG2_ARRAY_INT_INDEX_SCALE", type := .int, accessFlags := 25, slot := 6, constantValue := 0 }, { name := "LOG2_ARRAY_LONG_INDEX_SCALE", type := .int, accessFlags := 25, slot := 7, constantValue := 0 }, { name := "LOG2_ARRAY_FLOAT_INDEX_SCALE", type := .int, accessFlags := 25, slot := 8, constantValue := 0 }, { name := "LOG2_ARRAY_DOUBLE_INDEX_SCALE", type := .int, accessFlags := 25, slot := 9, constantValue := 0 }, { name := "LOG2_BYTE_BIT_SIZE", type := .int, accessFlags := 26, slot := 10, constantValue := 0 }, { name := "T_BOOLEAN", type := .int, accessFlags := 25, slot := 11, constantValue := 0 }, { name := "T_CHAR", type := .int, accessFlags := 25, slot := 12, constantValue := 0 }, { name := "T_FLOAT", type := .int, accessFlags := 25, slot := 13, constantValue := 0 }, { name := "T_DOUBLE", type := .int, accessFlags := 25, slot := 14, constantValue := 0 }, { name := "T_BYTE", type := .int, accessFlags := 25, slot := 15, constantValue := 0 }, { name := "T_SHORT", type := .int, accessFlags := 25, slot := 16, constantValue := 0 }, { name := "T_INT", type := .int, accessFlags := 25, slot := 17, constantValue := 0 }, { name := "T_LONG", type := .int, accessFlags := 25, slot := 18, constantValue := 0 }, { name := "JLA", type := (.object "jdk/internal/access/JavaLangAccess"), accessFlags := 26, slot := 19, constantValue := 0 }, { name := "SOFT_MAX_ARRAY_LENGTH", type := .int, accessFlags := 25, slot := 20, constantValue := 0 }]
  methods := #[k11m0]
  instanceTypes := #[]
  staticTypes := #[(.object "jdk/internal/misc/Unsafe"), .boolean, .int, .int, .int, .int, .int, .int, .int, .int, .int, .int, .int, .int, .int, .int, .int, .int, .int, (.object "jdk/internal/access/JavaLangAccess"), .int]
  resolved := Array.replicate 378 none
  statics := none }

def pool12 : Array CpInfo := pool [(1, u "java/lang/Cloneable"), (0, .class_ 1), (0, u "java/lang/Object"), (0, .class_ 3)] 3

/-- java/lang/Cloneable -/
def k12 : Class := { plain "java/lang/Cloneable" (some 0) with
  accessFlags := 1537
  interfaces := #[]
  cf := some (fileOf pool12 2 #[] #[] 1537 4 #[] #[])
  fields := #[]
  methods := #[]
  instanceTypes := #[]
  staticTypes := #[]
  resolved := Array.replicate 8 none
  statics := none }

/-- the primitive byte -/
def k13 : Class := { plain "byte" none with kind := .primitive 'B', accessFlags := 0x411 }
/-- [B -/
def k14 : Class := { plain "[B" (some 0) with kind := .array 13 .byte, interfaces := #[12, 2], accessFlags := 1041 }

/-- the primitive int -/
def k15 : Class := { plain "int" none with kind := .primitive 'I', accessFlags := 0x411 }
/-- [I -/
def k16 : Class := { plain "[I" (some 0) with kind := .array 15 .int, interfaces := #[12, 2], accessFlags := 1041 }

def heap : Heap := #[{ cls := 7, slots := #[.long 0, .int 1, .null, .int 0, .null, .int 0, .int 0], vm := .statics 7 },
  { cls := 9, slots := #[.null, .null, .null], vm := .statics 9 }]
def classes : Array Class := #[k0, k1, k2, k3, k4, k5, k6, k7, k8, k9, k10, k11, k12, k13, k14, k15, k16]
def interned : List (Array UInt16 × Addr) := []
def slotsUsed : Nat := 10
def theMethod : MethodId := ⟨1, 1⟩
def args0 : Array Value := #[.int 5, .int 5]
def aboutOver (below : List Frame) : State where
  vm := { classes := classes, interned := interned.toArray }
  heap := heap
  slotsUsed := slotsUsed
  threads := #[{ frames := .invoking theMethod args0 :: below }]
def below0 : List Frame := [.native { method := ⟨0, 0⟩, args := #[] }]
def about1 : State := aboutOver below0
def p0 : Program := .bare "" "" ""
def e0 : Env := launch0.env 0 0 0
theorem w_frames : about1.frames = Frame.invoking theMethod args0 :: below0 := rfl
set_option maxRecDepth 65536 in
theorem w_args : argsFit about1.vm theMethod args0 = true := by decide +kernel
set_option maxRecDepth 65536 in
theorem w_heap : heapFits about1 = true := by decide +kernel
set_option maxRecDepth 65536 in
theorem w_runnable : about1.curStatus? = some .runnable := by decide +kernel
set_option maxRecDepth 65536 in
theorem w_alone : about1.alone = true := by decide +kernel
set_option maxRecDepth 65536 in
theorem w_named : about1.methodNamed? x = some theMethod := by decide +kernel
set_option maxRecDepth 65536 in
theorem w_hears : about1.hears theMethod below0 = true := by decide +kernel
set_option maxRecDepth 65536 in
theorem w_ripe : about1.ripe theMethod args0 below0 = true := by decide +kernel
theorem w_running : about1.status = .running := rfl
set_option maxRecDepth 65536 in
theorem w_room : about1.hasRoom e0.platform room_1 = true :=
  launch0.hasRoom_least _ room_1 (by decide +kernel) (by decide +kernel) (by decide +kernel) (by decide +kernel) (by decide +kernel) (by decide +kernel)
theorem allAtoms_all (ts : List Jvm.Cond) (a : Array Jvm.Value) (st : Jvm.State) : (allAtoms ts).before a st = ts.all (fun c => c.before a st) := by
  induction ts with
  | nil => rfl
  | cons c t ih =>
    show (Jvm.Cond.and c (allAtoms t)).before a st = _
    rw [Jvm.Cond.before_and, ih, List.all_cons]
def words1 : List Jvm.Cond := Jvm.Cond.code x code maxLocals ret :: tables_1
/-- a 'code' word, met by the world's own term for the bytes: nothing is compared byte by byte -/
theorem code_word {y : MethodName} {bytes : ByteArray} {mx : Nat} {rt : Option FieldType} {a : Array Value} {s : State} {m : MethodId} {meth : Method} {c : Code} (h1 : s.methodNamed? y = some m) (h2 : s.vm.method? m = some meth) (h3 : meth.code = some c) (h4 : c.code = bytes)
    (h5 : (c.maxLocals == mx && c.exceptionTable.isEmpty && decide (c.maxStack ≤ mostOperands) && decide (meth.sig.returnType = rt) && !meth.locks && decide (parseMethodDescriptor y.desc = some meth.sig)) = true) : (Jvm.Cond.code y bytes mx rt).before a s = true := by
  simp only [Bool.and_eq_true, beq_iff_eq, Bool.not_eq_true', decide_eq_true_eq] at h5
  obtain ⟨⟨⟨⟨⟨g1, g2⟩, g3⟩, g4⟩, g5⟩, g6⟩ := h5
  simp [Cond.before, Cond.holds, Cond.value, h1, h2, h3, h4, g1, g2, g3, g4, g5, g6]
def isCode : Jvm.Cond → Bool
  | .code _ _ _ _ => true
  | _ => false
theorem all_split {L : List Jvm.Cond} {P : Jvm.Cond → Bool} (h1 : L.all (fun c => isCode c || P c) = true) (h2 : ∀ c ∈ L.filter isCode, P c = true) : L.all P = true := by
  refine List.all_eq_true.mpr fun c hc => ?_
  have h := List.all_eq_true.mp h1 c hc
  rcases Bool.eq_false_or_eq_true (isCode c) with hi | hi
  · exact h2 c (List.mem_filter.mpr ⟨hc, hi⟩)
  · simpa [hi] using h
set_option maxRecDepth 65536 in
theorem w_c0 : (Jvm.Cond.code x code maxLocals ret).before args0 about1 = true := code_word (m := ⟨1, 1⟩) (meth := k1m1) (c := k1c1) (by decide +kernel) rfl rfl rfl (by decide +kernel)
set_option maxRecDepth 65536 in
theorem w_c1 : (Jvm.Cond.code ({ cls := "com/example/ann_arbor/annarbor/http/wire/SyntaxHexValuePinLaw", name := "check", desc := "(II)Z" } : Jvm.MethodName) method_3_code (7 : Nat) (Option.some Jvm.ClassFile.FieldType.boolean)).before args0 about1 = true := code_word (m := ⟨1, 2⟩) (meth := k1m2) (c := k1c2) (by decide +kernel) rfl rfl rfl (by decide +kernel)
set_option maxRecDepth 65536 in
theorem w_c2 : (Jvm.Cond.code ({ cls := "java/lang/String", name := "charAt", desc := "(I)C" } : Jvm.MethodName) jdk_42_method_56_code (2 : Nat) (Option.some Jvm.ClassFile.FieldType.char)).before args0 about1 = true := code_word (m := ⟨7, 1⟩) (meth := k7m1) (c := k7c1) (by decide +kernel) rfl rfl rfl (by decide +kernel)
set_option maxRecDepth 65536 in
theorem w_c3 : (Jvm.Cond.code ({ cls := "java/lang/String", name := "isLatin1", desc := "()Z" } : Jvm.MethodName) jdk_42_method_154_code (1 : Nat) (Option.some Jvm.ClassFile.FieldType.boolean)).before args0 about1 = true := code_word (m := ⟨7, 2⟩) (meth := k7m2) (c := k7c2) (by decide +kernel) rfl rfl rfl (by decide +kernel)
set_option maxRecDepth 65536 in
theorem w_c4 : (Jvm.Cond.code ({ cls := "java/lang/StringLatin1", name := "charAt", desc := "([BI)C" } : Jvm.MethodName) jdk_43_method_2_code (2 : Nat) (Option.some Jvm.ClassFile.FieldType.char)).before args0 about1 = true := code_word (m := ⟨8, 1⟩) (meth := k8m1) (c := k8c1) (by decide +kernel) rfl rfl rfl (by decide +kernel)
set_option maxRecDepth 65536 in
theorem w_c5 : (Jvm.Cond.code ({ cls := "java/lang/String", name := "checkIndex", desc := "(II)V" } : Jvm.MethodName) jdk_42_method_155_code (2 : Nat) (Option.none : Option Jvm.ClassFile.FieldType)).before args0 about1 = true := code_word (m := ⟨7, 3⟩) (meth := k7m3) (c := k7c3) (by decide +kernel) rfl rfl rfl (by decide +kernel)
set_option maxRecDepth 65536 in
theorem w_c6 : (Jvm.Cond.code ({ cls := "jdk/internal/util/Preconditions", name := "checkIndex", desc := "(IILjava/util/function/BiFunction;)I" } : Jvm.MethodName) jdk_41_method_11_code (3 : Nat) (Option.some Jvm.ClassFile.FieldType.int)).before args0 about1 = true := code_word (m := ⟨9, 1⟩) (meth := k9m1) (c := k9c1) (by decide +kernel) rfl rfl rfl (by decide +kernel)
set_option maxRecDepth 65536 in
theorem w_c7 : (Jvm.Cond.code ({ cls := "com/example/ann_arbor/annarbor/http/wire/Syntax", name := "hexValue", desc := "(I)I" } : Jvm.MethodName) prog_18_method_7_code (1 : Nat) (Option.some Jvm.ClassFile.FieldType.int)).before args0 about1 = true := code_word (m := ⟨10, 1⟩) (meth := k10m1) (c := k10c1) (by decide +kernel) rfl rfl rfl (by decide +kernel)
def codes1 : List Jvm.Cond := [Jvm.Cond.code x code maxLocals ret, Jvm.Cond.code ({ cls := "com/example/ann_arbor/annarbor/http/wire/SyntaxHexValuePinLaw", name := "check", desc := "(II)Z" } : Jvm.MethodName) method_3_code (7 : Nat) (Option.some Jvm.ClassFile.FieldType.boolean), Jvm.Cond.code ({ cls := "java/lang/String", name := "charAt", desc := "(I)C" } : Jvm.MethodName) jdk_42_method_56_code (2 : Nat) (Option.some Jvm.ClassFile.FieldType.char), Jvm.Cond.code ({ cls := "java/lang/String", name := "isLatin1", desc := "()Z" } : Jvm.MethodName) jdk_42_method_154_code (1 : Nat) (Option.some Jvm.ClassFile.FieldType.boolean), Jvm.Cond.code ({ cls := "java/lang/StringLatin1", name := "charAt", desc := "([BI)C" } : Jvm.MethodName) jdk_43_method_2_code (2 : Nat) (Option.some Jvm.ClassFile.FieldType.char), Jvm.Cond.code ({ cls := "java/lang/String", name := "checkIndex", desc := "(II)V" } : Jvm.MethodName) jdk_42_method_155_code (2 : Nat) (Option.none : Option Jvm.ClassFile.FieldType), Jvm.Cond.code ({ cls := "jdk/internal/util/Preconditions", name := "checkIndex", desc := "(IILjava/util/function/BiFunction;)I" } : Jvm.MethodName) jdk_41_method_11_code (3 : Nat) (Option.some Jvm.ClassFile.FieldType.int), Jvm.Cond.code ({ cls := "com/example/ann_arbor/annarbor/http/wire/Syntax", name := "hexValue", desc := "(I)I" } : Jvm.MethodName) prog_18_method_7_code (1 : Nat) (Option.some Jvm.ClassFile.FieldType.int)]
set_option maxRecDepth 65536 in
theorem codes_eq : words1.filter isCode = codes1 := rfl
theorem w_codes : ∀ c ∈ words1.filter isCode, c.before args0 about1 = true := by
  rw [codes_eq]
  intro c hc
  simp only [codes1, List.mem_cons, List.not_mem_nil, or_false] at hc
  rcases hc with rfl | rfl | rfl | rfl | rfl | rfl | rfl | rfl
  · exact w_c0
  · exact w_c1
  · exact w_c2
  · exact w_c3
  · exact w_c4
  · exact w_c5
  · exact w_c6
  · exact w_c7
set_option maxRecDepth 65536 in
theorem w_t1 : (words1.take 24).all (fun c => isCode c || c.before args0 about1) = true := by decide +kernel
set_option maxRecDepth 65536 in
theorem w_t2 : (words1.drop 24).all (fun c => isCode c || c.before args0 about1) = true := by decide +kernel
theorem w_tables : (allAtoms (Jvm.Cond.code x code maxLocals ret :: tables_1)).before args0 about1 = true := by
  rw [allAtoms_all]
  show words1.all (fun c => c.before args0 about1) = true
  refine all_split ?_ w_codes
  rw [← List.take_append_drop 24 words1, List.all_append, w_t1, w_t2]
  rfl
set_option maxRecDepth 65536 in
theorem w_rest : rest_1_c.before args0 about1 = true := by decide +kernel
set_option maxRecDepth 65536 in
theorem w_case : (Jvm.Cond.and given_1 narrow_1).before args0 about1 = true := by decide +kernel
set_option maxRecDepth 65536 in
theorem w_consts : constsHeld consts_1 about1 := Jvm.Lit.constsHeldB_iff.mp (by decide +kernel)
theorem w_applies : (headSpec (Jvm.Cond.code x code maxLocals ret :: tables_1) room_1).applies x e0.platform about1 = true :=
  (Spec.applies_iff w_frames).mpr ⟨w_running, w_runnable, w_alone, w_named, w_hears, w_ripe, w_room, w_tables⟩
theorem atStart : AtStart classFile x code maxLocals ret World_1 tables_1 room_1 Calls_1 rest_1 Pre_1 launch0 p0 e0 about1 theMethod args0 below0 :=
  ⟨lists_1, trivial, launch0.admits_env _ _ _, launch0.least_env, fairChoices_fair.cas, fairChoices_fair.clock, w_frames, w_args, w_heap, w_applies, ⟨w_consts, trivial⟩, w_rest, w_case⟩
end start1
theorem witness_1 : WitnessClaimed_1 := ⟨start1.p0, start1.e0, start1.about1, start1.theMethod, start1.args0, start1.below0, start1.atStart⟩
end Jvm.Pilot.@@N@@
