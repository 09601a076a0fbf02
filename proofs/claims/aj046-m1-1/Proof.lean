import JvmDerived
import JvmDerived.Pilot.@@N@@Statement
import JvmDerived.Pilot.@@N@@Code
set_option linter.unusedVariables false
set_option linter.unusedSimpArgs false
@@BLOCK:NumsL.lean.txt@@
namespace Jvm.Pilot.@@N@@
open Jvm Jvm.ClassFile Sem Op Lib Jvm.Free Jvm.Stand Jvm.LawKit Jvm.RoadKit Bundle Jvm.Pilot.@@N@@.Jvm.D

/-! the walk's own small kit: from the frame g over the state T the body comes to its end, with Φ -/
def own_Go (p : Program) (e : Env) (below : List Frame) (T : State) (g : JFrame) (Φ : Outcome → State → Prop) : Prop :=
  ∃ s₂ o, Steps p.tables e below (T.setTop g) s₂ ∧ s₂.status = .running ∧ Ended s₂ below o ∧ Φ o s₂
def own_Fin (s : State) (Q : Option Value → Heap → List Loc → Prop) (k j : Nat) (o : Outcome) (U' : State) : Prop :=
  ∃ v L, o = .returned v ∧ Q v U'.heap L ∧ FrameEnd s o U' L k j
theorem own_by {p : Program} {e : Env} {below : List Frame} {T T' : State} {g g' : JFrame} {Φ : Outcome → State → Prop}
    (h : ∀ t, Steps p.tables e below (T'.setTop g') t → Steps p.tables e below (T.setTop g) t) (k : own_Go p e below T' g' Φ) : own_Go p e below T g Φ := by
  obtain ⟨s₂, o, h1, h2⟩ := k
  exact ⟨s₂, o, h _ h1, h2⟩
theorem own_start {p : Program} {e : Env} {below : List Frame} {s T : State} {g g' : JFrame} {Q : Option Value → Heap → List Loc → Prop} {k j : Nat} (hg : g = g')
    (h : own_Go p e below T g' (own_Fin s Q k j)) : ∃ s₂ o, Steps p.tables e below (T.setTop g) s₂ ∧ s₂.status = .running ∧ Ended s₂ below o ∧ ∃ v L, o = .returned v ∧ Q v s₂.heap L ∧ FrameEnd s o s₂ L k j := by
  subst hg
  exact h
section OwnRet
variable {p : Program} {l : Launch} {e : Env} {R : Room} {s : State} {m : MethodId} {args : Array Value} {below : List Frame} {meth : Method} {c : Code} {T : State} {locs : List Loc} {cells slots : Nat} {Q : Option Value → Heap → List Loc → Prop} {k j pc : Nat} {Ls : Array Slot} {rest : List Value}
theorem own_retN {t : FieldType} (ht : t = .boolean ∨ t = .byte ∨ t = .char ∨ t = .short) (X : Stand p l e R s m args below meth c T locs cells slots) (hx : p.tables.exec = Jvm.exec) (hret : meth.sig.returnType = some t) (hlk : meth.locks = false) {z : Int32} (hd : decode c.code pc = .ok (.ireturn, 1))
    (hz : nar t z = z) (hk : cells ≤ k) (hj : slots ≤ j) (q : Q (some (.int z)) T.heap locs) : own_Go p e below T (mkF m pc Ls (.int z :: rest)) (own_Fin s Q k j) := by
  obtain ⟨fs, hr, hrun, hended, hW, hsame⟩ := X.leave (v := some (.int z)) (fun h => by rw [hret] at h; cases h)
  exact ⟨_, _, retN X hx hret ht hd (by rw [hz]; exact hr), hrun, hended, _, _, rfl, q, ⟨_, rfl⟩, hW, hsame.mono hk hj⟩
theorem own_retZ (X : Stand p l e R s m args below meth c T locs cells slots) (hx : p.tables.exec = Jvm.exec) (hret : meth.sig.returnType = some .boolean) (hlk : meth.locks = false) {z : Int32} (hd : decode c.code pc = .ok (.ireturn, 1))
    (hz : nar .boolean z = z) (hk : cells ≤ k) (hj : slots ≤ j) (q : Q (some (.int z)) T.heap locs) : own_Go p e below T (mkF m pc Ls (.int z :: rest)) (own_Fin s Q k j) := own_retN (Or.inl rfl) X hx hret hlk hd hz hk hj q
theorem own_retI (X : Stand p l e R s m args below meth c T locs cells slots) (hx : p.tables.exec = Jvm.exec) (hret : meth.sig.returnType = some .int) (hlk : meth.locks = false) {z : Int32} (hd : decode c.code pc = .ok (.ireturn, 1))
    (hk : cells ≤ k) (hj : slots ≤ j) (q : Q (some (.int z)) T.heap locs) : own_Go p e below T (mkF m pc Ls (.int z :: rest)) (own_Fin s Q k j) := by
  obtain ⟨fs, hr, hrun, hended, hW, hsame⟩ := X.leave (v := some (.int z)) (fun h => by rw [hret] at h; cases h)
  exact ⟨_, _, retOut X hx hret rfl (Or.inl ⟨rfl, Or.inl rfl, z, rfl⟩) hd hr, hrun, hended, _, _, rfl, q, ⟨_, rfl⟩, hW, hsame.mono hk hj⟩
theorem own_retJ (X : Stand p l e R s m args below meth c T locs cells slots) (hx : p.tables.exec = Jvm.exec) (hret : meth.sig.returnType = some .long) (hlk : meth.locks = false) {z : Int64} (hd : decode c.code pc = .ok (.lreturn, 1))
    (hk : cells ≤ k) (hj : slots ≤ j) (q : Q (some (.long z)) T.heap locs) : own_Go p e below T (mkF m pc Ls (.long z :: rest)) (own_Fin s Q k j) := by
  obtain ⟨fs, hr, hrun, hended, hW, hsame⟩ := X.leave (v := some (.long z)) (fun h => by rw [hret] at h; cases h)
  exact ⟨_, _, retOut X hx hret rfl (Or.inr (Or.inl ⟨rfl, rfl, z, rfl⟩)) hd hr, hrun, hended, _, _, rfl, q, ⟨_, rfl⟩, hW, hsame.mono hk hj⟩
theorem own_retA {t : FieldType} (X : Stand p l e R s m args below meth c T locs cells slots) (hx : p.tables.exec = Jvm.exec) (hret : meth.sig.returnType = some t) (hlk : meth.locks = false) {z : Value} (hd : decode c.code pc = .ok (.areturn, 1))
    (ht : t.isReference = true) (hz : z.isRef = true) (hn : narrow t z = z) (hk : cells ≤ k) (hj : slots ≤ j) (q : Q (some z) T.heap locs) : own_Go p e below T (mkF m pc Ls (z :: rest)) (own_Fin s Q k j) := by
  obtain ⟨fs, hr, hrun, hended, hW, hsame⟩ := X.leave (v := some z) (fun h => by rw [hret] at h; cases h)
  exact ⟨_, _, retOut X hx hret hn (Or.inr (Or.inr (Or.inr (Or.inr ⟨rfl, ht, hz⟩)))) hd hr, hrun, hended, _, _, rfl, q, ⟨_, rfl⟩, hW, hsame.mono hk hj⟩
theorem own_retV (X : Stand p l e R s m args below meth c T locs cells slots) (hx : p.tables.exec = Jvm.exec) (hret : meth.sig.returnType = none) (hlk : meth.locks = false) (hd : decode c.code pc = .ok (.return_, 1))
    (hk : cells ≤ k) (hj : slots ≤ j) (q : Q none T.heap locs) : own_Go p e below T (mkF m pc Ls []) (own_Fin s Q k j) := by
  obtain ⟨fs, hr, hrun, hended, hW, hsame⟩ := X.leave (v := none) (fun _ => rfl)
  exact ⟨_, _, X.returnOut hx hret hd hr, hrun, hended, _, _, rfl, q, ⟨_, rfl⟩, hW, hsame.mono hk hj⟩
theorem own_lrem_eq (x y : Int64) : x - x / y * y = x % y := Int64.toInt_inj.mp (by rw [Jvm.Kit.i64_rem, Int64.toInt_mod])
theorem own_lrem {g : JFrame} {target : State} (X : Stand p l e R s m args below meth c T locs cells slots) (hx : p.tables.exec = Jvm.exec) (hg : g.method = m) {x y : Int64} {rest : List Value} (hd : decode c.code g.pc = .ok (.lrem, 1)) (hs : g.stack = .long y :: .long x :: rest) (hy : y ≠ 0)
    (hr : Steps p.tables e below (T.setTop { g with pc := g.pc + 1, stack := .long (x % y) :: rest }) target) : Steps p.tables e below (T.setTop g) target :=
  XS.lrem X.here hx hg hd hs hy (by rw [own_lrem_eq x y]; exact hr)
end OwnRet
/-! an array: its length, and what each place holds -/
abbrev own_At (j : Int32) (k : Nat) : Prop := ¬ j < 0 ∧ j.toNatClampNeg = k
def own_upd (f : Nat → Value) (k : Nat) (v : Value) : Nat → Value := fun i => if i = k then v else f i
theorem own_upd_hit {f : Nat → Value} {k i : Nat} {v : Value} (h : i = k) : own_upd f k v i = v := if_pos h
theorem own_upd_miss {f : Nat → Value} {k i : Nat} {v : Value} (h : ¬ i = k) : own_upd f k v i = f i := if_neg h
def own_Av (Z : State) (h : Heap) (a : Addr) (ty : FieldType) (n : Nat) (f : Nat → Value) : Prop := ∃ c : Cell, Arr Z h a c ty ∧ c.slots.size = n ∧ ∀ i, i < n → c.slots[i]? = some (f i)
section OwnArr
variable {Z : State} {h h' : Heap} {a b : Addr} {ty : FieldType} {n k sl : Nat} {f : Nat → Value} {v : Value} {ws : List Addr}
theorem own_Av.ext (F : own_Av Z h a ty n f) (E : Ext h h') : own_Av Z h' a ty n f := by obtain ⟨c, A, r⟩ := F; exact ⟨c, A.ext E, r⟩
theorem own_Av.other (F : own_Av Z h b ty n f) (W : Wr h h' a sl v) (q : b ≠ a) : own_Av Z h' b ty n f := by obtain ⟨c, A, r⟩ := F; exact ⟨c, A.other W q, r⟩
theorem own_Av.keep (F : own_Av Z h a ty n f) (K : Keep h h' ws) (q : a ∉ ws) : own_Av Z h' a ty n f := by obtain ⟨c, A, r⟩ := F; exact ⟨c, ⟨K.2.1 a c A.1 q, A.2⟩, r⟩
theorem own_Av.lt (F : own_Av Z h a ty n f) : a < h.size := by obtain ⟨c, A, -⟩ := F; exact A.lt
theorem own_Av.ofnew {z : Int32} {kc : ClassId} {d : Value} (A : Arr Z h a (newA kc ty z) ty) (hn : z.toNatClampNeg = n) (hd : defaultValue ty = d) : own_Av Z h a ty n (fun _ => d) := by
  subst hn hd
  exact ⟨_, A, sz_new _ _ _, fun i hi => by simp [newA, hi]⟩
theorem own_Av.set (F : own_Av Z h a ty n f) (W : Wr h h' a k v) : own_Av Z h' a ty n (own_upd f k v) := by
  obtain ⟨c, A, S, H⟩ := F
  refine ⟨_, A.same W, by rw [sz_set]; exact S, fun i hi => ?_⟩
  by_cases q : i = k
  · subst q
    rw [own_upd_hit rfl]
    simp [Cell.setSlot, S, hi]
  · rw [own_upd_miss q, ← H i hi]
    exact Array.getElem?_setIfInBounds_ne fun u => q u.symm
theorem own_Av.cong {g : Nat → Value} {n' : Nat} (F : own_Av Z h a ty n f) (hn : n = n') (q : ∀ i, i < n → f i = g i) : own_Av Z h a ty n' g := by
  subst hn
  obtain ⟨c, A, S, H⟩ := F
  exact ⟨c, A, S, fun i hi => by rw [← q i hi]; exact H i hi⟩
theorem own_in {j : Int32} (hj : own_At j k) (hk : k < n) {c : Cell} (S : c.slots.size = n) : ¬ (j < 0 ∨ c.slots.size ≤ j.toNatClampNeg) := by
  intro q
  rcases q with q | q
  · exact hj.1 q
  · rw [hj.2, S] at q; omega
variable {p : Program} {l : Launch} {e : Env} {R : Room} {s : State} {m : MethodId} {args : Array Value} {below : List Frame} {meth : Method} {c : Code} {T : State} {locs : List Loc} {cells slots : Nat}
theorem own_ldI (X : Stand p l e R s m args below meth c T locs cells slots) (hx : p.tables.exec = Jvm.exec) (hZ : Z.Warmed39 s.vm) (eT : T.heap = h) (F : own_Av Z h a .int n f) {j : Int32} (hj : own_At j k) (hk : k < n) (hv : f k = v)
    {g : JFrame} (hg : g.method = m) {rest : List Value} (hs : g.stack = .int j :: .ref a :: rest) (hd : decode c.code g.pc = .ok (.iaload, 1)) (t : State)
    (hr : Steps p.tables e below (T.setTop { g with pc := g.pc + 1, stack := v :: rest }) t) : Steps p.tables e below (T.setTop g) t := by
  obtain ⟨cl, A, S, H⟩ := F
  exact X.iaload hx (by rw [eT]; exact A.1) (State.isArrayOf_alike hZ.alike A.2.1) A.2.2 (own_in hj hk S) (by rw [hj.2, H k hk, hv]) hg hs hd t hr
theorem own_ldJ (X : Stand p l e R s m args below meth c T locs cells slots) (hx : p.tables.exec = Jvm.exec) (hZ : Z.Warmed39 s.vm) (eT : T.heap = h) (F : own_Av Z h a .long n f) {j : Int32} (hj : own_At j k) (hk : k < n) (hv : f k = v)
    {g : JFrame} (hg : g.method = m) {rest : List Value} (hs : g.stack = .int j :: .ref a :: rest) (hd : decode c.code g.pc = .ok (.laload, 1)) (t : State)
    (hr : Steps p.tables e below (T.setTop { g with pc := g.pc + 1, stack := v :: rest }) t) : Steps p.tables e below (T.setTop g) t := by
  obtain ⟨cl, A, S, H⟩ := F
  exact X.laload hx (by rw [eT]; exact A.1) (State.isArrayOf_alike hZ.alike A.2.1) A.2.2 (own_in hj hk S) (by rw [hj.2, H k hk, hv]) hg hs hd t hr
theorem own_ldS (X : Stand p l e R s m args below meth c T locs cells slots) (hx : p.tables.exec = Jvm.exec) (hZ : Z.Warmed39 s.vm) (eT : T.heap = h) (F : own_Av Z h a .short n f) {j : Int32} (hj : own_At j k) (hk : k < n) (hv : f k = v)
    {g : JFrame} (hg : g.method = m) {rest : List Value} (hs : g.stack = .int j :: .ref a :: rest) (hd : decode c.code g.pc = .ok (.saload, 1)) (t : State)
    (hr : Steps p.tables e below (T.setTop { g with pc := g.pc + 1, stack := v :: rest }) t) : Steps p.tables e below (T.setTop g) t := by
  obtain ⟨cl, A, S, H⟩ := F
  exact X.saload hx (by rw [eT]; exact A.1) (State.isArrayOf_alike hZ.alike A.2.1) A.2.2 (own_in hj hk S) (by rw [hj.2, H k hk, hv]) hg hs hd t hr
theorem own_ldC (X : Stand p l e R s m args below meth c T locs cells slots) (hx : p.tables.exec = Jvm.exec) (hZ : Z.Warmed39 s.vm) (eT : T.heap = h) (F : own_Av Z h a .char n f) {j : Int32} (hj : own_At j k) (hk : k < n) (hv : f k = v)
    {g : JFrame} (hg : g.method = m) {rest : List Value} (hs : g.stack = .int j :: .ref a :: rest) (hd : decode c.code g.pc = .ok (.caload, 1)) (t : State)
    (hr : Steps p.tables e below (T.setTop { g with pc := g.pc + 1, stack := v :: rest }) t) : Steps p.tables e below (T.setTop g) t := by
  obtain ⟨cl, A, S, H⟩ := F
  exact X.caload hx (by rw [eT]; exact A.1) (State.isArrayOf_alike hZ.alike A.2.1) A.2.2 (own_in hj hk S) (by rw [hj.2, H k hk, hv]) hg hs hd t hr
theorem own_ldB (X : Stand p l e R s m args below meth c T locs cells slots) (hx : p.tables.exec = Jvm.exec) (hZ : Z.Warmed39 s.vm) (eT : T.heap = h) (F : own_Av Z h a .byte n f) {j : Int32} (hj : own_At j k) (hk : k < n) (hv : f k = v)
    {g : JFrame} (hg : g.method = m) {rest : List Value} (hs : g.stack = .int j :: .ref a :: rest) (hd : decode c.code g.pc = .ok (.baload, 1)) (t : State)
    (hr : Steps p.tables e below (T.setTop { g with pc := g.pc + 1, stack := v :: rest }) t) : Steps p.tables e below (T.setTop g) t := by
  obtain ⟨cl, A, S, H⟩ := F
  exact X.baloadBytes hx (by rw [eT]; exact A.1) (State.isArrayOf_alike hZ.alike A.2.1) A.2.2 (own_in hj hk S) (by rw [hj.2, H k hk, hv]) hg hs hd t hr
theorem own_ldZ (X : Stand p l e R s m args below meth c T locs cells slots) (hx : p.tables.exec = Jvm.exec) (hZ : Z.Warmed39 s.vm) (eT : T.heap = h) (F : own_Av Z h a .boolean n f) {j : Int32} (hj : own_At j k) (hk : k < n) (hv : f k = v)
    {g : JFrame} (hg : g.method = m) {rest : List Value} (hs : g.stack = .int j :: .ref a :: rest) (hd : decode c.code g.pc = .ok (.baload, 1)) (t : State)
    (hr : Steps p.tables e below (T.setTop { g with pc := g.pc + 1, stack := v :: rest }) t) : Steps p.tables e below (T.setTop g) t := by
  obtain ⟨cl, A, S, H⟩ := F
  exact X.baloadBooleans hx (by rw [eT]; exact A.1) (State.isArrayOf_alike hZ.alike A.2.1) A.2.2 (own_in hj hk S) (by rw [hj.2, H k hk, hv]) hg hs hd t hr
theorem own_len (X : Stand p l e R s m args below meth c T locs cells slots) (hx : p.tables.exec = Jvm.exec) (hZ : Z.Warmed39 s.vm) (eT : T.heap = h) (F : own_Av Z h a ty n f) {z : Int32} (hz : n.toInt32 = z)
    {g : JFrame} (hg : g.method = m) {rest : List Value} (hs : g.stack = .ref a :: rest) (hd : decode c.code g.pc = .ok (.arraylength, 1)) (t : State)
    (hr : Steps p.tables e below (T.setTop { g with pc := g.pc + 1, stack := .int z :: rest }) t) : Steps p.tables e below (T.setTop g) t := by
  obtain ⟨cl, A, S, H⟩ := F
  exact X.arraylength hx (by rw [eT]; exact A.1) (State.isArrayOf_alike hZ.alike A.2.1) hg hs hd t (by rw [S, hz]; exact hr)
theorem own_stI (X : Stand p l e R s m args below meth c T locs cells slots) (hx : p.tables.exec = Jvm.exec) (hZ : Z.Warmed39 s.vm) (eT : T.heap = h) (F : own_Av Z h a .int n f) {j x : Int32} (hj : own_At j k) (hk : k < n)
    {g : JFrame} (hg : g.method = m) {rest : List Value} (hs : g.stack = .int x :: .int j :: .ref a :: rest) (hd : decode c.code g.pc = .ok (.iastore, 1)) :
    ∃ T' h', Stand p l e R s m args below meth c T' (locs ++ [⟨a, k⟩]) cells slots ∧ T'.heap = h' ∧ Wr h h' a k (.int x) ∧ own_Av Z h' a .int n (own_upd f k (.int x)) ∧ ∀ target, Steps p.tables e below (T'.setTop { g with pc := g.pc + 1, stack := rest }) target → Steps p.tables e below (T.setTop g) target := by
  obtain ⟨cl, A, S, H⟩ := id F
  obtain ⟨T', h', X', e', W', st⟩ := stI X hx hZ eT A (own_in hj hk S) hg hs hd
  rw [hj.2] at X' W'
  exact ⟨T', h', X', e', W', F.set W', st⟩
theorem own_stJ (X : Stand p l e R s m args below meth c T locs cells slots) (hx : p.tables.exec = Jvm.exec) (hZ : Z.Warmed39 s.vm) (eT : T.heap = h) (F : own_Av Z h a .long n f) {j : Int32} {x : Int64} (hj : own_At j k) (hk : k < n)
    {g : JFrame} (hg : g.method = m) {rest : List Value} (hs : g.stack = .long x :: .int j :: .ref a :: rest) (hd : decode c.code g.pc = .ok (.lastore, 1)) :
    ∃ T' h', Stand p l e R s m args below meth c T' (locs ++ [⟨a, k⟩]) cells slots ∧ T'.heap = h' ∧ Wr h h' a k (.long x) ∧ own_Av Z h' a .long n (own_upd f k (.long x)) ∧ ∀ target, Steps p.tables e below (T'.setTop { g with pc := g.pc + 1, stack := rest }) target → Steps p.tables e below (T.setTop g) target := by
  obtain ⟨cl, A, S, H⟩ := id F
  obtain ⟨T', h', X', e', W', st⟩ := stJ X hx hZ eT A (own_in hj hk S) hg hs hd
  rw [hj.2] at X' W'
  exact ⟨T', h', X', e', W', F.set W', st⟩
theorem own_stB (X : Stand p l e R s m args below meth c T locs cells slots) (hx : p.tables.exec = Jvm.exec) (hZ : Z.Warmed39 s.vm) (eT : T.heap = h) (F : own_Av Z h a .byte n f) {j x : Int32} (hj : own_At j k) (hk : k < n)
    {g : JFrame} (hg : g.method = m) {rest : List Value} (hs : g.stack = .int x :: .int j :: .ref a :: rest) (hd : decode c.code g.pc = .ok (.bastore, 1)) :
    ∃ T' h', Stand p l e R s m args below meth c T' (locs ++ [⟨a, k⟩]) cells slots ∧ T'.heap = h' ∧ Wr h h' a k (.int x.toInt8.toInt32) ∧ own_Av Z h' a .byte n (own_upd f k (.int x.toInt8.toInt32)) ∧ ∀ target, Steps p.tables e below (T'.setTop { g with pc := g.pc + 1, stack := rest }) target → Steps p.tables e below (T.setTop g) target := by
  obtain ⟨cl, A, S, H⟩ := id F
  obtain ⟨T', h', X', e', W', st⟩ := stB X hx hZ eT A (own_in hj hk S) hg hs hd
  rw [hj.2] at X' W'
  exact ⟨T', h', X', e', W', F.set W', st⟩
theorem own_stZ (X : Stand p l e R s m args below meth c T locs cells slots) (hx : p.tables.exec = Jvm.exec) (hZ : Z.Warmed39 s.vm) (eT : T.heap = h) (F : own_Av Z h a .boolean n f) {j x : Int32} (hj : own_At j k) (hk : k < n)
    {g : JFrame} (hg : g.method = m) {rest : List Value} (hs : g.stack = .int x :: .int j :: .ref a :: rest) (hd : decode c.code g.pc = .ok (.bastore, 1)) :
    ∃ T' h', Stand p l e R s m args below meth c T' (locs ++ [⟨a, k⟩]) cells slots ∧ T'.heap = h' ∧ Wr h h' a k (.int (x &&& 1)) ∧ own_Av Z h' a .boolean n (own_upd f k (.int (x &&& 1))) ∧ ∀ target, Steps p.tables e below (T'.setTop { g with pc := g.pc + 1, stack := rest }) target → Steps p.tables e below (T.setTop g) target := by
  obtain ⟨cl, A, S, H⟩ := id F
  obtain ⟨T', h', X', e', W', st⟩ := stZ X hx hZ eT A (own_in hj hk S) hg hs hd
  rw [hj.2] at X' W'
  exact ⟨T', h', X', e', W', F.set W', st⟩
theorem own_stC (X : Stand p l e R s m args below meth c T locs cells slots) (hx : p.tables.exec = Jvm.exec) (hZ : Z.Warmed39 s.vm) (eT : T.heap = h) (F : own_Av Z h a .char n f) {j x : Int32} (hj : own_At j k) (hk : k < n)
    {g : JFrame} (hg : g.method = m) {rest : List Value} (hs : g.stack = .int x :: .int j :: .ref a :: rest) (hd : decode c.code g.pc = .ok (.castore, 1)) :
    ∃ T' h', Stand p l e R s m args below meth c T' (locs ++ [⟨a, k⟩]) cells slots ∧ T'.heap = h' ∧ Wr h h' a k (.int (nar .char x)) ∧ own_Av Z h' a .char n (own_upd f k (.int (nar .char x))) ∧ ∀ target, Steps p.tables e below (T'.setTop { g with pc := g.pc + 1, stack := rest }) target → Steps p.tables e below (T.setTop g) target := by
  obtain ⟨cl, A, S, H⟩ := id F
  obtain ⟨T', h', X', e', W', st⟩ := stC X hx hZ eT A (own_in hj hk S) hg hs hd
  rw [hj.2] at X' W'
  exact ⟨T', h', X', e', W', F.set W', st⟩
theorem own_stS (X : Stand p l e R s m args below meth c T locs cells slots) (hx : p.tables.exec = Jvm.exec) (hZ : Z.Warmed39 s.vm) (eT : T.heap = h) (F : own_Av Z h a .short n f) {j x : Int32} (hj : own_At j k) (hk : k < n)
    {g : JFrame} (hg : g.method = m) {rest : List Value} (hs : g.stack = .int x :: .int j :: .ref a :: rest) (hd : decode c.code g.pc = .ok (.sastore, 1)) :
    ∃ T' h', Stand p l e R s m args below meth c T' (locs ++ [⟨a, k⟩]) cells slots ∧ T'.heap = h' ∧ Wr h h' a k (.int (nar .short x)) ∧ own_Av Z h' a .short n (own_upd f k (.int (nar .short x))) ∧ ∀ target, Steps p.tables e below (T'.setTop { g with pc := g.pc + 1, stack := rest }) target → Steps p.tables e below (T.setTop g) target := by
  obtain ⟨cl, A, S, H⟩ := id F
  obtain ⟨T', h', X', e', W', st⟩ := stS X hx hZ eT A (own_in hj hk S) hg hs hd
  rw [hj.2] at X' W'
  exact ⟨T', h', X', e', W', F.set W', st⟩
end OwnArr
theorem own_selP {Z s : State} {a0 args : Array Value} {y : MethodName} {n : Nat} (hZ : Z.Warmed39 s.vm) (wi : (Cond.instantiable y.cls n).before a0 Z = true) (wp : (Cond.privateMethod y).before a0 Z = true) (wm : (Cond.instanceMethod y).before a0 Z = true)
    (hy : y.cls ≠ "java/lang/invoke/MethodHandle" ∧ y.cls ≠ "java/lang/invoke/VarHandle") : (Cond.selects y.cls y y).before args s = true := by
  have w : (Cond.instantiable y.cls n).before args s = true := mvT hZ wi
  obtain ⟨c, k, h1, h2, -, h4, -⟩ := Cond.instantiable_spec w
  exact Jvm.Stand.selects_self_of_private h1 h2 (Bool.or_eq_false_iff.mp h4).1 (Cond.privateMethod_at (mvP hZ wp (args := args))) (mvT hZ wm) hy
theorem own_narZ {x : Int32} (h : x &&& 1 = x) : narrow .boolean (.int x) = .int x := by
  show Value.int (x &&& 1) = _
  rw [h]
theorem own_fitZ {x : Int32} (h : x &&& 1 = x) : fits .boolean (.int x) = true := by
  have q := fits_nar_bool x
  rw [show nar .boolean x = x from h] at q
  exact q
theorem own_mono {p : Program} {e : Env} {below : List Frame} {s T : State} {g : JFrame} {Q Q' : Option Value → Heap → List Loc → Prop} {k j : Nat} (h : ∀ v h L, Q v h L → Q' v h L) (G : own_Go p e below T g (own_Fin s Q k j)) : own_Go p e below T g (own_Fin s Q' k j) := by
  obtain ⟨s₂, o, h1, h2, h3, v, L, h4, h5, h6⟩ := G
  exact ⟨s₂, o, h1, h2, h3, v, L, h4, h _ _ _ h5, h6⟩
theorem own_ofs (i : Nat) : Int32.ofNat i + (1 : Int32) = Int32.ofNat (i + 1) := (Int32.ofNat_add i 1).symm
theorem own_toI {i : Nat} (h : i < 2147483648) : (Int32.ofNat i).toInt = i := Int32.toInt_ofNat_small h
theorem own_ix {i : Nat} (h : i < 2147483648) : own_At (Int32.ofNat i) i := by
  have e := own_toI h
  refine ⟨?_, ?_⟩
  · rw [Int32.lt_iff_toInt_lt, e, show (0 : Int32).toInt = 0 from by decide]; omega
  · simp only [Int32.toNatClampNeg, e]; omega
theorem own_oflt {i n : Nat} (hi : i < 2147483648) (hn : n < 2147483648) : Int32.ofNat i < Int32.ofNat n ↔ i < n := by
  rw [Int32.lt_iff_toInt_lt, own_toI hi, own_toI hn]; omega
theorem own_ofeq {i n : Nat} (hi : i < 2147483648) (hn : n < 2147483648) : Int32.ofNat i = Int32.ofNat n ↔ i = n := by
  rw [← Int32.toInt_inj, own_toI hi, own_toI hn]; omega
def own_fl (F : Nat → Int32) (i : Nat) (g : Nat → Value) (j : Nat) : Value := if j < i then .int (F j) else g j
theorem own_fl_up (F : Nat → Int32) (i : Nat) (g : Nat → Value) : ∀ j, own_upd (own_fl F i g) i (.int (F i)) j = own_fl F (i + 1) g j := fun j => by
  unfold own_fl
  by_cases q : j = i
  · subst q; rw [own_upd_hit rfl, if_pos (by omega)]
  · rw [own_upd_miss q]
    by_cases q2 : j < i
    · rw [if_pos q2, if_pos (by omega)]
    · rw [if_neg q2, if_neg (by omega)]
theorem own_fl0 (F : Nat → Int32) (g : Nat → Value) : ∀ j, g j = own_fl F 0 g j := fun j => by unfold own_fl; rw [if_neg (by omega)]
theorem own_fl_in {F : Nat → Int32} {i j : Nat} {g : Nat → Value} (h : j < i) : own_fl F i g j = .int (F j) := if_pos h
theorem own_fl_out {F : Nat → Int32} {i j : Nat} {g : Nat → Value} (h : ¬ j < i) : own_fl F i g j = g j := if_neg h

/-! single steps over own_Go -/
theorem own_s_iadd {p : Program} {e : Env} {below : List Frame} {T : State} {m : MethodId} {c : Code} {Φ : Outcome → State → Prop} {pc : Nat} {L : Array Slot} {S : List Value} (h : At T m c below) (hx : p.tables.exec = Jvm.exec) {x y : Int32} (hd : decode c.code pc = .ok (.iadd, 1)) (G : own_Go p e below T (mkF m (pc + 1) L (.int (x + y) :: S)) Φ) : own_Go p e below T (mkF m pc L (.int y :: .int x :: S)) Φ := own_by (fun t k => XS.iadd h hx rfl hd rfl k) G
theorem own_s_isub {p : Program} {e : Env} {below : List Frame} {T : State} {m : MethodId} {c : Code} {Φ : Outcome → State → Prop} {pc : Nat} {L : Array Slot} {S : List Value} (h : At T m c below) (hx : p.tables.exec = Jvm.exec) {x y : Int32} (hd : decode c.code pc = .ok (.isub, 1)) (G : own_Go p e below T (mkF m (pc + 1) L (.int (x - y) :: S)) Φ) : own_Go p e below T (mkF m pc L (.int y :: .int x :: S)) Φ := own_by (fun t k => XS.isub h hx rfl hd rfl k) G
theorem own_s_imul {p : Program} {e : Env} {below : List Frame} {T : State} {m : MethodId} {c : Code} {Φ : Outcome → State → Prop} {pc : Nat} {L : Array Slot} {S : List Value} (h : At T m c below) (hx : p.tables.exec = Jvm.exec) {x y : Int32} (hd : decode c.code pc = .ok (.imul, 1)) (G : own_Go p e below T (mkF m (pc + 1) L (.int (x * y) :: S)) Φ) : own_Go p e below T (mkF m pc L (.int y :: .int x :: S)) Φ := own_by (fun t k => XS.imul h hx rfl hd rfl k) G
theorem own_s_iand {p : Program} {e : Env} {below : List Frame} {T : State} {m : MethodId} {c : Code} {Φ : Outcome → State → Prop} {pc : Nat} {L : Array Slot} {S : List Value} (h : At T m c below) (hx : p.tables.exec = Jvm.exec) {x y : Int32} (hd : decode c.code pc = .ok (.iand, 1)) (G : own_Go p e below T (mkF m (pc + 1) L (.int (x &&& y) :: S)) Φ) : own_Go p e below T (mkF m pc L (.int y :: .int x :: S)) Φ := own_by (fun t k => XS.iand h hx rfl hd rfl k) G
theorem own_s_ior {p : Program} {e : Env} {below : List Frame} {T : State} {m : MethodId} {c : Code} {Φ : Outcome → State → Prop} {pc : Nat} {L : Array Slot} {S : List Value} (h : At T m c below) (hx : p.tables.exec = Jvm.exec) {x y : Int32} (hd : decode c.code pc = .ok (.ior, 1)) (G : own_Go p e below T (mkF m (pc + 1) L (.int (x ||| y) :: S)) Φ) : own_Go p e below T (mkF m pc L (.int y :: .int x :: S)) Φ := own_by (fun t k => XS.ior h hx rfl hd rfl k) G
theorem own_s_ixor {p : Program} {e : Env} {below : List Frame} {T : State} {m : MethodId} {c : Code} {Φ : Outcome → State → Prop} {pc : Nat} {L : Array Slot} {S : List Value} (h : At T m c below) (hx : p.tables.exec = Jvm.exec) {x y : Int32} (hd : decode c.code pc = .ok (.ixor, 1)) (G : own_Go p e below T (mkF m (pc + 1) L (.int (x ^^^ y) :: S)) Φ) : own_Go p e below T (mkF m pc L (.int y :: .int x :: S)) Φ := own_by (fun t k => XS.ixor h hx rfl hd rfl k) G
theorem own_s_ladd {p : Program} {e : Env} {below : List Frame} {T : State} {m : MethodId} {c : Code} {Φ : Outcome → State → Prop} {pc : Nat} {L : Array Slot} {S : List Value} (h : At T m c below) (hx : p.tables.exec = Jvm.exec) {x y : Int64} (hd : decode c.code pc = .ok (.ladd, 1)) (G : own_Go p e below T (mkF m (pc + 1) L (.long (x + y) :: S)) Φ) : own_Go p e below T (mkF m pc L (.long y :: .long x :: S)) Φ := own_by (fun t k => XS.ladd h hx rfl hd rfl k) G
theorem own_s_lsub {p : Program} {e : Env} {below : List Frame} {T : State} {m : MethodId} {c : Code} {Φ : Outcome → State → Prop} {pc : Nat} {L : Array Slot} {S : List Value} (h : At T m c below) (hx : p.tables.exec = Jvm.exec) {x y : Int64} (hd : decode c.code pc = .ok (.lsub, 1)) (G : own_Go p e below T (mkF m (pc + 1) L (.long (x - y) :: S)) Φ) : own_Go p e below T (mkF m pc L (.long y :: .long x :: S)) Φ := own_by (fun t k => XS.lsub h hx rfl hd rfl k) G
theorem own_s_lmul {p : Program} {e : Env} {below : List Frame} {T : State} {m : MethodId} {c : Code} {Φ : Outcome → State → Prop} {pc : Nat} {L : Array Slot} {S : List Value} (h : At T m c below) (hx : p.tables.exec = Jvm.exec) {x y : Int64} (hd : decode c.code pc = .ok (.lmul, 1)) (G : own_Go p e below T (mkF m (pc + 1) L (.long (x * y) :: S)) Φ) : own_Go p e below T (mkF m pc L (.long y :: .long x :: S)) Φ := own_by (fun t k => XS.lmul h hx rfl hd rfl k) G
theorem own_s_land {p : Program} {e : Env} {below : List Frame} {T : State} {m : MethodId} {c : Code} {Φ : Outcome → State → Prop} {pc : Nat} {L : Array Slot} {S : List Value} (h : At T m c below) (hx : p.tables.exec = Jvm.exec) {x y : Int64} (hd : decode c.code pc = .ok (.land, 1)) (G : own_Go p e below T (mkF m (pc + 1) L (.long (x &&& y) :: S)) Φ) : own_Go p e below T (mkF m pc L (.long y :: .long x :: S)) Φ := own_by (fun t k => XS.land h hx rfl hd rfl k) G
theorem own_s_lor {p : Program} {e : Env} {below : List Frame} {T : State} {m : MethodId} {c : Code} {Φ : Outcome → State → Prop} {pc : Nat} {L : Array Slot} {S : List Value} (h : At T m c below) (hx : p.tables.exec = Jvm.exec) {x y : Int64} (hd : decode c.code pc = .ok (.lor, 1)) (G : own_Go p e below T (mkF m (pc + 1) L (.long (x ||| y) :: S)) Φ) : own_Go p e below T (mkF m pc L (.long y :: .long x :: S)) Φ := own_by (fun t k => XS.lor h hx rfl hd rfl k) G
theorem own_s_lxor {p : Program} {e : Env} {below : List Frame} {T : State} {m : MethodId} {c : Code} {Φ : Outcome → State → Prop} {pc : Nat} {L : Array Slot} {S : List Value} (h : At T m c below) (hx : p.tables.exec = Jvm.exec) {x y : Int64} (hd : decode c.code pc = .ok (.lxor, 1)) (G : own_Go p e below T (mkF m (pc + 1) L (.long (x ^^^ y) :: S)) Φ) : own_Go p e below T (mkF m pc L (.long y :: .long x :: S)) Φ := own_by (fun t k => XS.lxor h hx rfl hd rfl k) G
theorem own_s_ishl {p : Program} {e : Env} {below : List Frame} {T : State} {m : MethodId} {c : Code} {Φ : Outcome → State → Prop} {pc : Nat} {L : Array Slot} {S : List Value} (h : At T m c below) (hx : p.tables.exec = Jvm.exec) {x y : Int32} (hd : decode c.code pc = .ok (.ishl, 1)) (G : own_Go p e below T (mkF m (pc + 1) L (.int (x <<< (y &&& 31)) :: S)) Φ) : own_Go p e below T (mkF m pc L (.int y :: .int x :: S)) Φ := own_by (fun t k => XS.ishl h hx rfl hd rfl k) G
theorem own_s_ishr {p : Program} {e : Env} {below : List Frame} {T : State} {m : MethodId} {c : Code} {Φ : Outcome → State → Prop} {pc : Nat} {L : Array Slot} {S : List Value} (h : At T m c below) (hx : p.tables.exec = Jvm.exec) {x y : Int32} (hd : decode c.code pc = .ok (.ishr, 1)) (G : own_Go p e below T (mkF m (pc + 1) L (.int (x >>> (y &&& 31)) :: S)) Φ) : own_Go p e below T (mkF m pc L (.int y :: .int x :: S)) Φ := own_by (fun t k => XS.ishr h hx rfl hd rfl k) G
theorem own_s_iushr {p : Program} {e : Env} {below : List Frame} {T : State} {m : MethodId} {c : Code} {Φ : Outcome → State → Prop} {pc : Nat} {L : Array Slot} {S : List Value} (h : At T m c below) (hx : p.tables.exec = Jvm.exec) {x y : Int32} (hd : decode c.code pc = .ok (.iushr, 1)) (G : own_Go p e below T (mkF m (pc + 1) L (.int ((x.toUInt32 >>> (y &&& 31).toUInt32).toInt32) :: S)) Φ) : own_Go p e below T (mkF m pc L (.int y :: .int x :: S)) Φ := own_by (fun t k => XS.iushr h hx rfl hd rfl k) G
theorem own_s_lshl {p : Program} {e : Env} {below : List Frame} {T : State} {m : MethodId} {c : Code} {Φ : Outcome → State → Prop} {pc : Nat} {L : Array Slot} {S : List Value} (h : At T m c below) (hx : p.tables.exec = Jvm.exec) {x : Int64} {y : Int32} (hd : decode c.code pc = .ok (.lshl, 1)) (G : own_Go p e below T (mkF m (pc + 1) L (.long (x <<< (y &&& 0x3f).toInt64) :: S)) Φ) : own_Go p e below T (mkF m pc L (.int y :: .long x :: S)) Φ := own_by (fun t k => XS.lshl h hx rfl hd rfl k) G
theorem own_s_lshr {p : Program} {e : Env} {below : List Frame} {T : State} {m : MethodId} {c : Code} {Φ : Outcome → State → Prop} {pc : Nat} {L : Array Slot} {S : List Value} (h : At T m c below) (hx : p.tables.exec = Jvm.exec) {x : Int64} {y : Int32} (hd : decode c.code pc = .ok (.lshr, 1)) (G : own_Go p e below T (mkF m (pc + 1) L (.long (x >>> (y &&& 0x3f).toInt64) :: S)) Φ) : own_Go p e below T (mkF m pc L (.int y :: .long x :: S)) Φ := own_by (fun t k => XS.lshr h hx rfl hd rfl k) G
theorem own_s_lushr {p : Program} {e : Env} {below : List Frame} {T : State} {m : MethodId} {c : Code} {Φ : Outcome → State → Prop} {pc : Nat} {L : Array Slot} {S : List Value} (h : At T m c below) (hx : p.tables.exec = Jvm.exec) {x : Int64} {y : Int32} (hd : decode c.code pc = .ok (.lushr, 1)) (G : own_Go p e below T (mkF m (pc + 1) L (.long ((x.toUInt64 >>> (y &&& 0x3f).toInt64.toUInt64).toInt64) :: S)) Φ) : own_Go p e below T (mkF m pc L (.int y :: .long x :: S)) Φ := own_by (fun t k => XS.lushr h hx rfl hd rfl k) G
theorem own_s_ineg {p : Program} {e : Env} {below : List Frame} {T : State} {m : MethodId} {c : Code} {Φ : Outcome → State → Prop} {pc : Nat} {L : Array Slot} {S : List Value} (h : At T m c below) (hx : p.tables.exec = Jvm.exec) {x : Int32} (hd : decode c.code pc = .ok (.ineg, 1)) (G : own_Go p e below T (mkF m (pc + 1) L (.int (-x) :: S)) Φ) : own_Go p e below T (mkF m pc L (.int x :: S)) Φ := own_by (fun t k => XS.ineg h hx rfl hd rfl k) G
theorem own_s_lneg {p : Program} {e : Env} {below : List Frame} {T : State} {m : MethodId} {c : Code} {Φ : Outcome → State → Prop} {pc : Nat} {L : Array Slot} {S : List Value} (h : At T m c below) (hx : p.tables.exec = Jvm.exec) {x : Int64} (hd : decode c.code pc = .ok (.lneg, 1)) (G : own_Go p e below T (mkF m (pc + 1) L (.long (-x) :: S)) Φ) : own_Go p e below T (mkF m pc L (.long x :: S)) Φ := own_by (fun t k => XS.lneg h hx rfl hd rfl k) G
theorem own_s_i2l {p : Program} {e : Env} {below : List Frame} {T : State} {m : MethodId} {c : Code} {Φ : Outcome → State → Prop} {pc : Nat} {L : Array Slot} {S : List Value} (h : At T m c below) (hx : p.tables.exec = Jvm.exec) {x : Int32} (hd : decode c.code pc = .ok (.i2l, 1)) (G : own_Go p e below T (mkF m (pc + 1) L (.long (x.toInt64) :: S)) Φ) : own_Go p e below T (mkF m pc L (.int x :: S)) Φ := own_by (fun t k => XS.i2l h hx rfl hd rfl k) G
theorem own_s_l2i {p : Program} {e : Env} {below : List Frame} {T : State} {m : MethodId} {c : Code} {Φ : Outcome → State → Prop} {pc : Nat} {L : Array Slot} {S : List Value} (h : At T m c below) (hx : p.tables.exec = Jvm.exec) {x : Int64} (hd : decode c.code pc = .ok (.l2i, 1)) (G : own_Go p e below T (mkF m (pc + 1) L (.int (x.toInt32) :: S)) Φ) : own_Go p e below T (mkF m pc L (.long x :: S)) Φ := own_by (fun t k => XS.l2i h hx rfl hd rfl k) G
theorem own_s_i2b {p : Program} {e : Env} {below : List Frame} {T : State} {m : MethodId} {c : Code} {Φ : Outcome → State → Prop} {pc : Nat} {L : Array Slot} {S : List Value} (h : At T m c below) (hx : p.tables.exec = Jvm.exec) {x : Int32} (hd : decode c.code pc = .ok (.i2b, 1)) (G : own_Go p e below T (mkF m (pc + 1) L (.int (x.toInt8.toInt32) :: S)) Φ) : own_Go p e below T (mkF m pc L (.int x :: S)) Φ := own_by (fun t k => XS.i2b h hx rfl hd rfl k) G
theorem own_s_i2s {p : Program} {e : Env} {below : List Frame} {T : State} {m : MethodId} {c : Code} {Φ : Outcome → State → Prop} {pc : Nat} {L : Array Slot} {S : List Value} (h : At T m c below) (hx : p.tables.exec = Jvm.exec) {x : Int32} (hd : decode c.code pc = .ok (.i2s, 1)) (G : own_Go p e below T (mkF m (pc + 1) L (.int (x.toInt16.toInt32) :: S)) Φ) : own_Go p e below T (mkF m pc L (.int x :: S)) Φ := own_by (fun t k => XS.i2s h hx rfl hd rfl k) G
theorem own_s_i2c {p : Program} {e : Env} {below : List Frame} {T : State} {m : MethodId} {c : Code} {Φ : Outcome → State → Prop} {pc : Nat} {L : Array Slot} {S : List Value} (h : At T m c below) (hx : p.tables.exec = Jvm.exec) {x : Int32} (hd : decode c.code pc = .ok (.i2c, 1)) (G : own_Go p e below T (mkF m (pc + 1) L (.int (x.toUInt32.toUInt16.toUInt32.toInt32) :: S)) Φ) : own_Go p e below T (mkF m pc L (.int x :: S)) Φ := own_by (fun t k => XS.i2c h hx rfl hd rfl k) G
theorem own_s_iloadN {p : Program} {e : Env} {below : List Frame} {T : State} {m : MethodId} {c : Code} {Φ : Outcome → State → Prop} {pc : Nat} {L : Array Slot} {S : List Value} (h : At T m c below) (hx : p.tables.exec = Jvm.exec) {i : Fin 4} {v : Int32} (hd : decode c.code pc = .ok (.iload_n i, 1)) (hl : L[i.val]? = some (.val (.int v))) (G : own_Go p e below T (mkF m (pc + 1) L (.int v :: S)) Φ) : own_Go p e below T (mkF m pc L S) Φ := own_by (fun t k => XS.iloadN h hx rfl hd hl k) G
theorem own_s_iload {p : Program} {e : Env} {below : List Frame} {T : State} {m : MethodId} {c : Code} {Φ : Outcome → State → Prop} {pc : Nat} {L : Array Slot} {S : List Value} (h : At T m c below) (hx : p.tables.exec = Jvm.exec) {i : Nat} {v : Int32} (hd : decode c.code pc = .ok (.iload i, 2)) (hl : L[i]? = some (.val (.int v))) (G : own_Go p e below T (mkF m (pc + 2) L (.int v :: S)) Φ) : own_Go p e below T (mkF m pc L S) Φ := own_by (fun t k => XS.iload h hx rfl hd hl k) G
theorem own_s_lloadN {p : Program} {e : Env} {below : List Frame} {T : State} {m : MethodId} {c : Code} {Φ : Outcome → State → Prop} {pc : Nat} {L : Array Slot} {S : List Value} (h : At T m c below) (hx : p.tables.exec = Jvm.exec) {i : Fin 4} {v : Int64} (hd : decode c.code pc = .ok (.lload_n i, 1)) (hl : L[i.val]? = some (.val (.long v))) (G : own_Go p e below T (mkF m (pc + 1) L (.long v :: S)) Φ) : own_Go p e below T (mkF m pc L S) Φ := own_by (fun t k => XS.lloadN h hx rfl hd hl k) G
theorem own_s_lload {p : Program} {e : Env} {below : List Frame} {T : State} {m : MethodId} {c : Code} {Φ : Outcome → State → Prop} {pc : Nat} {L : Array Slot} {S : List Value} (h : At T m c below) (hx : p.tables.exec = Jvm.exec) {i : Nat} {v : Int64} (hd : decode c.code pc = .ok (.lload i, 2)) (hl : L[i]? = some (.val (.long v))) (G : own_Go p e below T (mkF m (pc + 2) L (.long v :: S)) Φ) : own_Go p e below T (mkF m pc L S) Φ := own_by (fun t k => XS.lload h hx rfl hd hl k) G
theorem own_s_aloadN {p : Program} {e : Env} {below : List Frame} {T : State} {m : MethodId} {c : Code} {Φ : Outcome → State → Prop} {pc : Nat} {L : Array Slot} {S : List Value} (h : At T m c below) (hx : p.tables.exec = Jvm.exec) {i : Fin 4} {v : Value} (hd : decode c.code pc = .ok (.aload_n i, 1)) (hl : L[i.val]? = some (.val v)) (hv : v.isRef = true) (G : own_Go p e below T (mkF m (pc + 1) L (v :: S)) Φ) : own_Go p e below T (mkF m pc L S) Φ := own_by (fun t k => XS.aloadN h hx rfl hd hl hv k) G
theorem own_s_aload {p : Program} {e : Env} {below : List Frame} {T : State} {m : MethodId} {c : Code} {Φ : Outcome → State → Prop} {pc : Nat} {L : Array Slot} {S : List Value} (h : At T m c below) (hx : p.tables.exec = Jvm.exec) {i : Nat} {v : Value} (hd : decode c.code pc = .ok (.aload i, 2)) (hl : L[i]? = some (.val v)) (hv : v.isRef = true) (G : own_Go p e below T (mkF m (pc + 2) L (v :: S)) Φ) : own_Go p e below T (mkF m pc L S) Φ := own_by (fun t k => XS.aload h hx rfl hd hl hv k) G
theorem own_s_istoreN {p : Program} {e : Env} {below : List Frame} {T : State} {m : MethodId} {c : Code} {Φ : Outcome → State → Prop} {pc : Nat} {L : Array Slot} {S : List Value} (h : At T m c below) (hx : p.tables.exec = Jvm.exec) {i : Fin 4} {v : Int32} (L' : Array Slot) (hd : decode c.code pc = .ok (.istore_n i, 1)) (hl : storeLocals L i.val (.int v) = some L') (G : own_Go p e below T (mkF m (pc + 1) L' S) Φ) : own_Go p e below T (mkF m pc L (.int v :: S)) Φ := own_by (fun t k => XS.istoreN h hx rfl hd rfl hl k) G
theorem own_s_istore {p : Program} {e : Env} {below : List Frame} {T : State} {m : MethodId} {c : Code} {Φ : Outcome → State → Prop} {pc : Nat} {L : Array Slot} {S : List Value} (h : At T m c below) (hx : p.tables.exec = Jvm.exec) {i : Nat} {v : Int32} (L' : Array Slot) (hd : decode c.code pc = .ok (.istore i, 2)) (hl : storeLocals L i (.int v) = some L') (G : own_Go p e below T (mkF m (pc + 2) L' S) Φ) : own_Go p e below T (mkF m pc L (.int v :: S)) Φ := own_by (fun t k => XS.istore h hx rfl hd rfl hl k) G
theorem own_s_lstoreN {p : Program} {e : Env} {below : List Frame} {T : State} {m : MethodId} {c : Code} {Φ : Outcome → State → Prop} {pc : Nat} {L : Array Slot} {S : List Value} (h : At T m c below) (hx : p.tables.exec = Jvm.exec) {i : Fin 4} {v : Int64} (L' : Array Slot) (hd : decode c.code pc = .ok (.lstore_n i, 1)) (hl : storeLocals L i.val (.long v) = some L') (G : own_Go p e below T (mkF m (pc + 1) L' S) Φ) : own_Go p e below T (mkF m pc L (.long v :: S)) Φ := own_by (fun t k => XS.lstoreN h hx rfl hd rfl hl k) G
theorem own_s_lstore {p : Program} {e : Env} {below : List Frame} {T : State} {m : MethodId} {c : Code} {Φ : Outcome → State → Prop} {pc : Nat} {L : Array Slot} {S : List Value} (h : At T m c below) (hx : p.tables.exec = Jvm.exec) {i : Nat} {v : Int64} (L' : Array Slot) (hd : decode c.code pc = .ok (.lstore i, 2)) (hl : storeLocals L i (.long v) = some L') (G : own_Go p e below T (mkF m (pc + 2) L' S) Φ) : own_Go p e below T (mkF m pc L (.long v :: S)) Φ := own_by (fun t k => XS.lstore h hx rfl hd rfl hl k) G
theorem own_s_astoreN {p : Program} {e : Env} {below : List Frame} {T : State} {m : MethodId} {c : Code} {Φ : Outcome → State → Prop} {pc : Nat} {L : Array Slot} {S : List Value} (h : At T m c below) (hx : p.tables.exec = Jvm.exec) {i : Fin 4} {v : Value} (L' : Array Slot) (hd : decode c.code pc = .ok (.astore_n i, 1)) (hv : v.isRef = true) (hl : storeLocals L i.val v = some L') (G : own_Go p e below T (mkF m (pc + 1) L' S) Φ) : own_Go p e below T (mkF m pc L (v :: S)) Φ := own_by (fun t k => XS.astoreN h hx rfl hd rfl hv hl k) G
theorem own_s_astore {p : Program} {e : Env} {below : List Frame} {T : State} {m : MethodId} {c : Code} {Φ : Outcome → State → Prop} {pc : Nat} {L : Array Slot} {S : List Value} (h : At T m c below) (hx : p.tables.exec = Jvm.exec) {i : Nat} {v : Value} (L' : Array Slot) (hd : decode c.code pc = .ok (.astore i, 2)) (hv : v.isRef = true) (hl : storeLocals L i v = some L') (G : own_Go p e below T (mkF m (pc + 2) L' S) Φ) : own_Go p e below T (mkF m pc L (v :: S)) Φ := own_by (fun t k => XS.astore h hx rfl hd rfl hv hl k) G
theorem own_s_iconst {p : Program} {e : Env} {below : List Frame} {T : State} {m : MethodId} {c : Code} {Φ : Outcome → State → Prop} {pc : Nat} {L : Array Slot} {S : List Value} (h : At T m c below) (hx : p.tables.exec = Jvm.exec) {i : Int} (v : Int32) (hd : decode c.code pc = .ok (.iconst i, 1)) (hv : Int32.ofInt i = v) (G : own_Go p e below T (mkF m (pc + 1) L (.int v :: S)) Φ) : own_Go p e below T (mkF m pc L S) Φ := own_by (fun t k => XS.iconst h hx rfl hd (by rw [hv]; exact k)) G
theorem own_s_bipush {p : Program} {e : Env} {below : List Frame} {T : State} {m : MethodId} {c : Code} {Φ : Outcome → State → Prop} {pc : Nat} {L : Array Slot} {S : List Value} (h : At T m c below) (hx : p.tables.exec = Jvm.exec) {i : Int} (v : Int32) (hd : decode c.code pc = .ok (.bipush i, 2)) (hv : (Int8.ofInt i).toInt32 = v) (G : own_Go p e below T (mkF m (pc + 2) L (.int v :: S)) Φ) : own_Go p e below T (mkF m pc L S) Φ := own_by (fun t k => XS.bipush h hx rfl hd (by rw [hv]; exact k)) G
theorem own_s_sipush {p : Program} {e : Env} {below : List Frame} {T : State} {m : MethodId} {c : Code} {Φ : Outcome → State → Prop} {pc : Nat} {L : Array Slot} {S : List Value} (h : At T m c below) (hx : p.tables.exec = Jvm.exec) {i : Int} (v : Int32) (hd : decode c.code pc = .ok (.sipush i, 3)) (hv : (Int16.ofInt i).toInt32 = v) (G : own_Go p e below T (mkF m (pc + 3) L (.int v :: S)) Φ) : own_Go p e below T (mkF m pc L S) Φ := own_by (fun t k => XS.sipush h hx rfl hd (by rw [hv]; exact k)) G
theorem own_s_lconst {p : Program} {e : Env} {below : List Frame} {T : State} {m : MethodId} {c : Code} {Φ : Outcome → State → Prop} {pc : Nat} {L : Array Slot} {S : List Value} (h : At T m c below) (hx : p.tables.exec = Jvm.exec) {i : Fin 2} (v : Int64) (hd : decode c.code pc = .ok (.lconst i, 1)) (hv : Int64.ofNat i = v) (G : own_Go p e below T (mkF m (pc + 1) L (.long v :: S)) Φ) : own_Go p e below T (mkF m pc L S) Φ := own_by (fun t k => XS.lconst h hx rfl hd (by rw [hv]; exact k)) G
theorem own_s_goto {p : Program} {e : Env} {below : List Frame} {T : State} {m : MethodId} {c : Code} {Φ : Outcome → State → Prop} {pc : Nat} {L : Array Slot} {S : List Value} (h : At T m c below) (hx : p.tables.exec = Jvm.exec) {o : Int} (pc' : Nat) (hd : decode c.code pc = .ok (.goto o, 3)) (ho : 0 ≤ (pc : Int) + o) (hp : ((pc : Int) + o).toNat = pc') (G : own_Go p e below T (mkF m pc' L S) Φ) : own_Go p e below T (mkF m pc L S) Φ := own_by (fun t k => XS.goto h hx rfl rfl hd ho hp k) G
theorem own_s_ifYes {p : Program} {e : Env} {below : List Frame} {T : State} {m : MethodId} {c : Code} {Φ : Outcome → State → Prop} {pc : Nat} {L : Array Slot} {S : List Value} (h : At T m c below) (hx : p.tables.exec = Jvm.exec) {cd : ClassFile.Cond} {x : Int32} {o : Int} (pc' : Nat) (hd : decode c.code pc = .ok (.ifCond cd o, 3)) (hc : ifCond.holds cd x = true) (ho : 0 ≤ (pc : Int) + o) (hp : ((pc : Int) + o).toNat = pc') (G : own_Go p e below T (mkF m pc' L S) Φ) : own_Go p e below T (mkF m pc L (.int x :: S)) Φ := own_by (fun t k => XS.ifYes h hx rfl rfl hd rfl hc ho hp k) G
theorem own_s_ifNo {p : Program} {e : Env} {below : List Frame} {T : State} {m : MethodId} {c : Code} {Φ : Outcome → State → Prop} {pc : Nat} {L : Array Slot} {S : List Value} (h : At T m c below) (hx : p.tables.exec = Jvm.exec) {cd : ClassFile.Cond} {x : Int32} {o : Int} (hd : decode c.code pc = .ok (.ifCond cd o, 3)) (hc : ifCond.holds cd x = false) (G : own_Go p e below T (mkF m (pc + 3) L S) Φ) : own_Go p e below T (mkF m pc L (.int x :: S)) Φ := own_by (fun t k => XS.ifNo h hx rfl hd rfl hc k) G
theorem own_s_icmpYes {p : Program} {e : Env} {below : List Frame} {T : State} {m : MethodId} {c : Code} {Φ : Outcome → State → Prop} {pc : Nat} {L : Array Slot} {S : List Value} (h : At T m c below) (hx : p.tables.exec = Jvm.exec) {cd : ClassFile.Cond} {x y : Int32} {o : Int} (pc' : Nat) (hd : decode c.code pc = .ok (.if_icmp cd o, 3)) (hc : if_icmp.holds cd x y = true) (ho : 0 ≤ (pc : Int) + o) (hp : ((pc : Int) + o).toNat = pc') (G : own_Go p e below T (mkF m pc' L S) Φ) : own_Go p e below T (mkF m pc L (.int y :: .int x :: S)) Φ := own_by (fun t k => XS.icmpYes h hx rfl rfl hd rfl hc ho hp k) G
theorem own_s_icmpNo {p : Program} {e : Env} {below : List Frame} {T : State} {m : MethodId} {c : Code} {Φ : Outcome → State → Prop} {pc : Nat} {L : Array Slot} {S : List Value} (h : At T m c below) (hx : p.tables.exec = Jvm.exec) {cd : ClassFile.Cond} {x y : Int32} {o : Int} (hd : decode c.code pc = .ok (.if_icmp cd o, 3)) (hc : if_icmp.holds cd x y = false) (G : own_Go p e below T (mkF m (pc + 3) L S) Φ) : own_Go p e below T (mkF m pc L (.int y :: .int x :: S)) Φ := own_by (fun t k => XS.icmpNo h hx rfl hd rfl hc k) G
theorem own_s_lcmp {p : Program} {e : Env} {below : List Frame} {T : State} {m : MethodId} {c : Code} {Φ : Outcome → State → Prop} {pc : Nat} {L : Array Slot} {S : List Value} (h : At T m c below) (hx : p.tables.exec = Jvm.exec) {x y : Int64} (hd : decode c.code pc = .ok (.lcmp, 1)) (G : own_Go p e below T (mkF m (pc + 1) L (.int (Jvm.Free.XT.cmpL x y) :: S)) Φ) : own_Go p e below T (mkF m pc L (.long y :: .long x :: S)) Φ := own_by (fun t k => Jvm.Free.XT.lcmp h hx rfl hd rfl k) G
theorem own_s_dup {p : Program} {e : Env} {below : List Frame} {T : State} {m : MethodId} {c : Code} {Φ : Outcome → State → Prop} {pc : Nat} {L : Array Slot} {S : List Value} (h : At T m c below) (hx : p.tables.exec = Jvm.exec) {x : Value} (hd : decode c.code pc = .ok (.dup, 1)) (hc : x.category = 1) (G : own_Go p e below T (mkF m (pc + 1) L (x :: x :: S)) Φ) : own_Go p e below T (mkF m pc L (x :: S)) Φ := own_by (fun t k => XS.dup h hx rfl hd rfl hc k) G
theorem own_s_pop {p : Program} {e : Env} {below : List Frame} {T : State} {m : MethodId} {c : Code} {Φ : Outcome → State → Prop} {pc : Nat} {L : Array Slot} {S : List Value} (h : At T m c below) (hx : p.tables.exec = Jvm.exec) {x : Value} (hd : decode c.code pc = .ok (.pop, 1)) (hc : x.category = 1) (G : own_Go p e below T (mkF m (pc + 1) L S) Φ) : own_Go p e below T (mkF m pc L (x :: S)) Φ := own_by (fun t k => XS.pop h hx rfl hd rfl hc k) G

def own_f4 (u0 : Int64) : Int64 := ((((((u0 * (-7046029254386353131 : Int64)) ^^^ (((u0 * (-7046029254386353131 : Int64)).toUInt64 >>> ((30 : Int32) &&& 0x3f).toInt64.toUInt64).toInt64)) * (-4658895280553007687 : Int64)) ^^^ (((((u0 * (-7046029254386353131 : Int64)) ^^^ (((u0 * (-7046029254386353131 : Int64)).toUInt64 >>> ((30 : Int32) &&& 0x3f).toInt64.toUInt64).toInt64)) * (-4658895280553007687 : Int64)).toUInt64 >>> ((27 : Int32) &&& 0x3f).toInt64.toUInt64).toInt64)) * (-7723592293110705685 : Int64)) ^^^ (((((((u0 * (-7046029254386353131 : Int64)) ^^^ (((u0 * (-7046029254386353131 : Int64)).toUInt64 >>> ((30 : Int32) &&& 0x3f).toInt64.toUInt64).toInt64)) * (-4658895280553007687 : Int64)) ^^^ (((((u0 * (-7046029254386353131 : Int64)) ^^^ (((u0 * (-7046029254386353131 : Int64)).toUInt64 >>> ((30 : Int32) &&& 0x3f).toInt64.toUInt64).toInt64)) * (-4658895280553007687 : Int64)).toUInt64 >>> ((27 : Int32) &&& 0x3f).toInt64.toUInt64).toInt64)) * (-7723592293110705685 : Int64)).toUInt64 >>> ((31 : Int32) &&& 0x3f).toInt64.toUInt64).toInt64))
theorem own_d4_0 : decode prog_20_method_4_code 0 = .ok (.lload_n 0, 1) := by decide +kernel
theorem own_d4_1 : decode prog_20_method_4_code 1 = .ok (.ldc2_w 26, 3) := by decide +kernel
theorem own_d4_4 : decode prog_20_method_4_code 4 = .ok (.lmul, 1) := by decide +kernel
theorem own_d4_5 : decode prog_20_method_4_code 5 = .ok (.lstore_n 2, 1) := by decide +kernel
theorem own_d4_6 : decode prog_20_method_4_code 6 = .ok (.lload_n 2, 1) := by decide +kernel
theorem own_d4_7 : decode prog_20_method_4_code 7 = .ok (.lload_n 2, 1) := by decide +kernel
theorem own_d4_8 : decode prog_20_method_4_code 8 = .ok (.bipush 30, 2) := by decide +kernel
theorem own_d4_10 : decode prog_20_method_4_code 10 = .ok (.lushr, 1) := by decide +kernel
theorem own_d4_11 : decode prog_20_method_4_code 11 = .ok (.lxor, 1) := by decide +kernel
theorem own_d4_12 : decode prog_20_method_4_code 12 = .ok (.ldc2_w 28, 3) := by decide +kernel
theorem own_d4_15 : decode prog_20_method_4_code 15 = .ok (.lmul, 1) := by decide +kernel
theorem own_d4_16 : decode prog_20_method_4_code 16 = .ok (.lstore_n 2, 1) := by decide +kernel
theorem own_d4_17 : decode prog_20_method_4_code 17 = .ok (.lload_n 2, 1) := by decide +kernel
theorem own_d4_18 : decode prog_20_method_4_code 18 = .ok (.lload_n 2, 1) := by decide +kernel
theorem own_d4_19 : decode prog_20_method_4_code 19 = .ok (.bipush 27, 2) := by decide +kernel
theorem own_d4_21 : decode prog_20_method_4_code 21 = .ok (.lushr, 1) := by decide +kernel
theorem own_d4_22 : decode prog_20_method_4_code 22 = .ok (.lxor, 1) := by decide +kernel
theorem own_d4_23 : decode prog_20_method_4_code 23 = .ok (.ldc2_w 30, 3) := by decide +kernel
theorem own_d4_26 : decode prog_20_method_4_code 26 = .ok (.lmul, 1) := by decide +kernel
theorem own_d4_27 : decode prog_20_method_4_code 27 = .ok (.lstore_n 2, 1) := by decide +kernel
theorem own_d4_28 : decode prog_20_method_4_code 28 = .ok (.lload_n 2, 1) := by decide +kernel
theorem own_d4_29 : decode prog_20_method_4_code 29 = .ok (.lload_n 2, 1) := by decide +kernel
theorem own_d4_30 : decode prog_20_method_4_code 30 = .ok (.bipush 31, 2) := by decide +kernel
theorem own_d4_32 : decode prog_20_method_4_code 32 = .ok (.lushr, 1) := by decide +kernel
theorem own_d4_33 : decode prog_20_method_4_code 33 = .ok (.lxor, 1) := by decide +kernel
theorem own_d4_34 : decode prog_20_method_4_code 34 = .ok (.lreturn, 1) := by decide +kernel
theorem own_pn_SeededHash : plainName "com/example/tallymark/tallymark/SeededHash" = true := by first | (simp [plainName, overriddenIn]; done) | decide +kernel
theorem own_ef4 (m : MethodId) (u0 : Int64) : entryFrame m #[(.long u0)] 4 = mkF m 0 #[.val (.long u0), .second, .unset, .unset] [] := by first | (simp [entryFrame, mkF, argsToLocals, Value.category]; done) | rfl
def own_q_own_r4 (Z : State) (u0 : Int64) (h0 : Heap) (n0 : Nat) (v : Option Value) (h : Heap) (L : List Loc) : Prop := v = some (.long (own_f4 u0)) ∧ Fr n0 L ∧ h = h0
set_option maxRecDepth 65536 in
set_option maxHeartbeats 40000000 in
theorem own_r4 (l : Launch) (Z : State) (a0 : Array Value) (hw : ∀ d ∈ tables_1, d.before a0 Z = true) (ws : List Jvm.Cond) (u0 : Int64) (h0 : Heap) (n0 : Nat) (Z0 : n0 ≤ h0.size) :
    MetFree l (⟨"com/example/tallymark/tallymark/SeededHash", "mix", "(J)J"⟩ : MethodName) (head1 (Jvm.Cond.code (⟨"com/example/tallymark/tallymark/SeededHash", "mix", "(J)J"⟩ : MethodName) prog_20_method_4_code 4 (some .long) :: ws) ({ frames := 0, cells := 0, slots := 0, locals := 0 } : Room)) (fun a U => a = #[(.long u0)] ∧ Z.Warmed39 U.vm ∧ U.heap = h0) (fun _ _ _ _ _ => True) (fun _ U o U' => ∃ v L, o = .returned v ∧ own_q_own_r4 Z u0 h0 n0 v U'.heap L ∧ FrameEnd U o U' L ({ frames := 0, cells := 0, slots := 0, locals := 0 } : Room).cells ({ frames := 0, cells := 0, slots := 0, locals := 0 } : Room).slots) := by
  refine MetFree.of_bodySF (plainFor_of_name own_pn_SeededHash) hisR ?_
  intro p e s m args below meth c T0 Bd hml0 hP hK
  obtain ⟨rfl, hZ, hh⟩ := hP
  have hx := Bd.exec
  have hby := Bd.bytes
  have hml : c.maxLocals = 4 := hml0
  have hown : s.vm.findClass "com/example/tallymark/tallymark/SeededHash" = some m.cls := findClass_of_methodNamed Bd.named
  have hnm := (name_of_methodNamed Bd.named Bd.method).1
  have hret : meth.sig.returnType = (some .long) := Bd.returns
  have hlk : meth.locks = false := BodyLoose.notSynchronized Bd
  have X0 : Stand p l e ({ frames := 0, cells := 0, slots := 0, locals := 0 } : Room) s m #[(.long u0)] below meth c T0 [] 0 0 := Stand.of_body Bd
  have e0 : T0.heap = h0 := by rw [← hh, Bd.state]; rfl
  have N0 := Fr.nil n0
  refine own_start (own_ef4 m u0) (Q := fun (v : Option Value) (h : Heap) (L : List Loc) => v = some (.long (own_f4 u0)) ∧ Fr n0 L ∧ h = h0) (k := 0) (j := 0) ?_
  show own_Go p e below T0 (mkF m 0 #[.val (.long u0), .second, .unset, .unset] []) _
  refine own_s_lloadN X0.here hx (hb hby own_d4_0) rfl ?_
  refine own_by (fun tq_ kq_ => X0.ldc2Long hx hown (mvT hZ (hw _ (List.mem_of_getElem? (i := 24) rfl))) (g := (mkF m 1 #[.val (.long u0), .second, .unset, .unset] [(.long u0)])) rfl (hb hby own_d4_1) tq_ kq_) ?_
  show own_Go p e below T0 (mkF m 4 #[.val (.long u0), .second, .unset, .unset] [(.long (-7046029254386353131 : Int64)), (.long u0)]) _
  refine own_s_lmul X0.here hx (hb hby own_d4_4) ?_
  refine own_s_lstoreN X0.here hx #[.val (.long u0), .second, .val (.long (u0 * (-7046029254386353131 : Int64))), .second] (hb hby own_d4_5) rfl ?_
  refine own_s_lloadN X0.here hx (hb hby own_d4_6) rfl ?_
  refine own_s_lloadN X0.here hx (hb hby own_d4_7) rfl ?_
  refine own_s_bipush X0.here hx (30 : Int32) (hb hby own_d4_8) rfl ?_
  refine own_s_lushr X0.here hx (hb hby own_d4_10) ?_
  refine own_s_lxor X0.here hx (hb hby own_d4_11) ?_
  refine own_by (fun tq_ kq_ => X0.ldc2Long hx hown (mvT hZ (hw _ (List.mem_of_getElem? (i := 25) rfl))) (g := (mkF m 12 #[.val (.long u0), .second, .val (.long (u0 * (-7046029254386353131 : Int64))), .second] [(.long ((u0 * (-7046029254386353131 : Int64)) ^^^ (((u0 * (-7046029254386353131 : Int64)).toUInt64 >>> ((30 : Int32) &&& 0x3f).toInt64.toUInt64).toInt64)))])) rfl (hb hby own_d4_12) tq_ kq_) ?_
  show own_Go p e below T0 (mkF m 15 #[.val (.long u0), .second, .val (.long (u0 * (-7046029254386353131 : Int64))), .second] [(.long (-4658895280553007687 : Int64)), (.long ((u0 * (-7046029254386353131 : Int64)) ^^^ (((u0 * (-7046029254386353131 : Int64)).toUInt64 >>> ((30 : Int32) &&& 0x3f).toInt64.toUInt64).toInt64)))]) _
  refine own_s_lmul X0.here hx (hb hby own_d4_15) ?_
  refine own_s_lstoreN X0.here hx #[.val (.long u0), .second, .val (.long (((u0 * (-7046029254386353131 : Int64)) ^^^ (((u0 * (-7046029254386353131 : Int64)).toUInt64 >>> ((30 : Int32) &&& 0x3f).toInt64.toUInt64).toInt64)) * (-4658895280553007687 : Int64))), .second] (hb hby own_d4_16) rfl ?_
  refine own_s_lloadN X0.here hx (hb hby own_d4_17) rfl ?_
  refine own_s_lloadN X0.here hx (hb hby own_d4_18) rfl ?_
  refine own_s_bipush X0.here hx (27 : Int32) (hb hby own_d4_19) rfl ?_
  refine own_s_lushr X0.here hx (hb hby own_d4_21) ?_
  refine own_s_lxor X0.here hx (hb hby own_d4_22) ?_
  refine own_by (fun tq_ kq_ => X0.ldc2Long hx hown (mvT hZ (hw _ (List.mem_of_getElem? (i := 26) rfl))) (g := (mkF m 23 #[.val (.long u0), .second, .val (.long (((u0 * (-7046029254386353131 : Int64)) ^^^ (((u0 * (-7046029254386353131 : Int64)).toUInt64 >>> ((30 : Int32) &&& 0x3f).toInt64.toUInt64).toInt64)) * (-4658895280553007687 : Int64))), .second] [(.long ((((u0 * (-7046029254386353131 : Int64)) ^^^ (((u0 * (-7046029254386353131 : Int64)).toUInt64 >>> ((30 : Int32) &&& 0x3f).toInt64.toUInt64).toInt64)) * (-4658895280553007687 : Int64)) ^^^ (((((u0 * (-7046029254386353131 : Int64)) ^^^ (((u0 * (-7046029254386353131 : Int64)).toUInt64 >>> ((30 : Int32) &&& 0x3f).toInt64.toUInt64).toInt64)) * (-4658895280553007687 : Int64)).toUInt64 >>> ((27 : Int32) &&& 0x3f).toInt64.toUInt64).toInt64)))])) rfl (hb hby own_d4_23) tq_ kq_) ?_
  show own_Go p e below T0 (mkF m 26 #[.val (.long u0), .second, .val (.long (((u0 * (-7046029254386353131 : Int64)) ^^^ (((u0 * (-7046029254386353131 : Int64)).toUInt64 >>> ((30 : Int32) &&& 0x3f).toInt64.toUInt64).toInt64)) * (-4658895280553007687 : Int64))), .second] [(.long (-7723592293110705685 : Int64)), (.long ((((u0 * (-7046029254386353131 : Int64)) ^^^ (((u0 * (-7046029254386353131 : Int64)).toUInt64 >>> ((30 : Int32) &&& 0x3f).toInt64.toUInt64).toInt64)) * (-4658895280553007687 : Int64)) ^^^ (((((u0 * (-7046029254386353131 : Int64)) ^^^ (((u0 * (-7046029254386353131 : Int64)).toUInt64 >>> ((30 : Int32) &&& 0x3f).toInt64.toUInt64).toInt64)) * (-4658895280553007687 : Int64)).toUInt64 >>> ((27 : Int32) &&& 0x3f).toInt64.toUInt64).toInt64)))]) _
  refine own_s_lmul X0.here hx (hb hby own_d4_26) ?_
  refine own_s_lstoreN X0.here hx #[.val (.long u0), .second, .val (.long (((((u0 * (-7046029254386353131 : Int64)) ^^^ (((u0 * (-7046029254386353131 : Int64)).toUInt64 >>> ((30 : Int32) &&& 0x3f).toInt64.toUInt64).toInt64)) * (-4658895280553007687 : Int64)) ^^^ (((((u0 * (-7046029254386353131 : Int64)) ^^^ (((u0 * (-7046029254386353131 : Int64)).toUInt64 >>> ((30 : Int32) &&& 0x3f).toInt64.toUInt64).toInt64)) * (-4658895280553007687 : Int64)).toUInt64 >>> ((27 : Int32) &&& 0x3f).toInt64.toUInt64).toInt64)) * (-7723592293110705685 : Int64))), .second] (hb hby own_d4_27) rfl ?_
  refine own_s_lloadN X0.here hx (hb hby own_d4_28) rfl ?_
  refine own_s_lloadN X0.here hx (hb hby own_d4_29) rfl ?_
  refine own_s_bipush X0.here hx (31 : Int32) (hb hby own_d4_30) rfl ?_
  refine own_s_lushr X0.here hx (hb hby own_d4_32) ?_
  refine own_s_lxor X0.here hx (hb hby own_d4_33) ?_
  refine own_retJ X0 hx hret hlk (hb hby own_d4_34) (by decide) (by decide) ?_
  exact ⟨by unfold own_f4; rfl, N0, e0⟩
theorem own_d3_0 : decode prog_20_method_1_code 0 = .ok (.aload_n 0, 1) := by decide +kernel
theorem own_d3_1 : decode prog_20_method_1_code 1 = .ok (.invokespecial 1, 3) := by decide +kernel
theorem own_d3_4 : decode prog_20_method_1_code 4 = .ok (.aload_n 0, 1) := by decide +kernel
theorem own_d3_5 : decode prog_20_method_1_code 5 = .ok (.lload_n 1, 1) := by decide +kernel
theorem own_d3_6 : decode prog_20_method_1_code 6 = .ok (.invokestatic 7, 3) := by decide +kernel
theorem own_d3_9 : decode prog_20_method_1_code 9 = .ok (.putfield 13, 3) := by decide +kernel
theorem own_d3_12 : decode prog_20_method_1_code 12 = .ok (.return_, 1) := by decide +kernel
theorem own_ef3 (m : MethodId) (this : Addr) (q1 : Int64) : entryFrame m #[(.ref this), (.long q1)] 3 = mkF m 0 #[.val (.ref this), .val (.long q1), .second] [] := by first | (simp [entryFrame, mkF, argsToLocals, Value.category]; done) | rfl
theorem own_pd_3 : parseMethodDescriptor "(J)J" = some ⟨[.long], some .long⟩ := by decide +kernel
def own_q_own_r3 (Z : State) (this : Addr) (q1 : Int64) (h0 : Heap) (n0 : Nat) (v : Option Value) (h : Heap) (L : List Loc) : Prop := v = none ∧ Fr n0 L ∧ Keep h0 h [this]
set_option maxRecDepth 65536 in
set_option maxHeartbeats 40000000 in
theorem own_r3 (l : Launch) (Z : State) (a0 : Array Value) (hw : ∀ d ∈ tables_1, d.before a0 Z = true) (ws : List Jvm.Cond) (this : Addr) (q1 : Int64) (h0 : Heap) (n0 : Nat) (Z0 : n0 ≤ h0.size) (E_this : Exa Z h0 this "com/example/tallymark/tallymark/SeededHash") (F_this_seedBits : Fld Z h0 this "com/example/tallymark/tallymark/SeededHash" "seedBits" "J" (.long (0 : Int64))) (ge_this : n0 ≤ this) :
    MetFree l (⟨"com/example/tallymark/tallymark/SeededHash", "<init>", "(J)V"⟩ : MethodName) (head1 (Jvm.Cond.code (⟨"com/example/tallymark/tallymark/SeededHash", "<init>", "(J)V"⟩ : MethodName) prog_20_method_1_code 3 none :: ws) ({ frames := 1, cells := 0, slots := 0, locals := 16 } : Room)) (fun a U => a = #[(.ref this), (.long q1)] ∧ Z.Warmed39 U.vm ∧ U.heap = h0) (fun _ _ _ _ _ => True) (fun _ U o U' => ∃ v L, o = .returned v ∧ own_q_own_r3 Z this q1 h0 n0 v U'.heap L ∧ FrameEnd U o U' L ({ frames := 1, cells := 0, slots := 0, locals := 16 } : Room).cells ({ frames := 1, cells := 0, slots := 0, locals := 16 } : Room).slots) := by
  refine MetFree.of_bodySF (plainFor_of_name own_pn_SeededHash) hisR ?_
  intro p e s m args below meth c T0 Bd hml0 hP hK
  obtain ⟨rfl, hZ, hh⟩ := hP
  have hx := Bd.exec
  have hby := Bd.bytes
  have hml : c.maxLocals = 3 := hml0
  have hown : s.vm.findClass "com/example/tallymark/tallymark/SeededHash" = some m.cls := findClass_of_methodNamed Bd.named
  have hnm := (name_of_methodNamed Bd.named Bd.method).1
  have hret : meth.sig.returnType = none := Bd.returns
  have hlk : meth.locks = false := BodyLoose.notSynchronized Bd
  have X0 : Stand p l e ({ frames := 1, cells := 0, slots := 0, locals := 16 } : Room) s m #[(.ref this), (.long q1)] below meth c T0 [] 0 0 := Stand.of_body Bd
  have e0 : T0.heap = h0 := by rw [← hh, Bd.state]; rfl
  have N0 := Fr.nil n0
  refine own_start (own_ef3 m this q1) (Q := fun (v : Option Value) (h : Heap) (L : List Loc) => v = none ∧ Fr n0 L ∧ Keep h0 h [this]) (k := 0) (j := 0) ?_
  show own_Go p e below T0 (mkF m 0 #[.val (.ref this), .val (.long q1), .second] []) _
  have K0 := Keep.refl h0 [this]
  refine own_s_aloadN X0.here hx (hb hby own_d3_0) rfl rfl ?_
  obtain ⟨T1, X1, e1, st1⟩ := initO X0 hx hZ hown (hw _ (List.mem_of_getElem? (i := 20) rfl)) (hw _ (List.mem_of_getElem? (i := 8) rfl)) (hw _ (List.mem_of_getElem? (i := 9) rfl)) e0 (g := (mkF m 1 #[.val (.ref this), .val (.long q1), .second] [(.ref this)])) rfl (by rw [hml]; rfl) rfl (hb hby own_d3_1) (by decide) (W := 0) (by show 2 * 0 + _ ≤ _; exact Nat.le_of_eq rfl) (by decide)
  refine own_by st1 ?_
  show own_Go p e below T1 (mkF m 4 #[.val (.ref this), .val (.long q1), .second] []) _
  refine own_s_aloadN X1.here hx (hb hby own_d3_4) rfl rfl ?_
  refine own_s_lloadN X1.here hx (hb hby own_d3_5) rfl ?_
  obtain ⟨_, _, ⟨T2, L2, k2, n2⟩, -, X2, ⟨Lc2, hQ2, l2, y2, z2⟩, st2⟩ := Jvm.LawKit.callS X1 hx (y := (⟨"com/example/tallymark/tallymark/SeededHash", "mix", "(J)J"⟩ : MethodName)) hown (mvT hZ (hw _ (List.mem_of_getElem? (i := 21) rfl))) (mvT hZ (hw _ (List.mem_of_getElem? (i := 22) rfl))) (mvT hZ (hw _ (List.mem_of_getElem? (i := 16) rfl))) (mvT hZ (hw _ (List.mem_of_getElem? (i := 23) rfl))) (by decide) (backOf (W := 1) (own_r4 l Z a0 hw [] q1  h0 n0 Z0 ) hZ (hw _ (List.mem_of_getElem? (i := 23) rfl)) (hw _ (List.mem_of_getElem? (i := 16) rfl)) (by decide) (by decide)) (g := (mkF m 6 #[.val (.ref this), .val (.long q1), .second] [(.long q1), (.ref this)])) rfl (by rw [hml]; rfl) (argsL := [(.long q1)]) (rest := [(.ref this)]) (lenOf own_pd_3 rfl) rfl (by show 2 * 0 + _ ≤ _; exact Nat.le_of_eq rfl) (hb hby own_d3_6) (fun _ _ => ⟨rfl, e1, (by decide : 0 + 0 ≤ _), (by decide : 0 + 0 ≤ _)⟩)
  dsimp only [Pt.U, Pt.locs, Pt.cells, Pt.slots] at X2 l2 y2 z2 st2 hQ2
  subst l2 y2 z2
  obtain ⟨rfl, N2q, e2⟩ := hQ2
  have N2 := Fr.app N0 N2q
  refine own_by st2 ?_
  show own_Go p e below T2 (mkF m 9 #[.val (.ref this), .val (.long q1), .second] [(.long (own_f4 q1)), (.ref this)]) _
  obtain ⟨T3, h3, X3, e3, W3, st3⟩ := putF X2 hx hZ hown (host := "") (Or.inl (hw _ (List.mem_of_getElem? (i := 27) rfl))) Via.refl e2 F_this_seedBits E_this (Or.inr ⟨(hw _ (List.mem_of_getElem? (i := 28) rfl)), rfl, hnm⟩) (hw _ (List.mem_of_getElem? (i := 15) rfl)) (ty := .long) (by decide) rfl rfl (g := (mkF m 9 #[.val (.ref this), .val (.long q1), .second] [(.long (own_f4 q1)), (.ref this)])) rfl rfl (hb hby own_d3_9)
  have fw3 := F_this_seedBits.same W3
  have f4 := E_this.wr W3
  have N3 := Fr.snoc X3 N2 ge_this
  have SZ3 : n0 ≤ h3.size := by rw [W3.size]; exact Z0
  have K3 := K0.wr W3 (Or.inl (List.mem_of_getElem? (i := 0) rfl))
  refine own_by st3 ?_
  show own_Go p e below T3 (mkF m 12 #[.val (.ref this), .val (.long q1), .second] []) _
  refine own_retV X3 hx hret hlk (hb hby own_d3_12) (by decide) (by decide) ?_
  rw [e3]
  exact ⟨rfl, N3, K3⟩
theorem own_d1_0 : decode prog_10_method_1_code 0 = .ok (.aload_n 0, 1) := by decide +kernel
theorem own_d1_1 : decode prog_10_method_1_code 1 = .ok (.invokespecial 1, 3) := by decide +kernel
theorem own_d1_4 : decode prog_10_method_1_code 4 = .ok (.aload_n 0, 1) := by decide +kernel
theorem own_d1_5 : decode prog_10_method_1_code 5 = .ok (.iload_n 1, 1) := by decide +kernel
theorem own_d1_6 : decode prog_10_method_1_code 6 = .ok (.putfield 7, 3) := by decide +kernel
theorem own_d1_9 : decode prog_10_method_1_code 9 = .ok (.aload_n 0, 1) := by decide +kernel
theorem own_d1_10 : decode prog_10_method_1_code 10 = .ok (.iload_n 2, 1) := by decide +kernel
theorem own_d1_11 : decode prog_10_method_1_code 11 = .ok (.putfield 13, 3) := by decide +kernel
theorem own_d1_14 : decode prog_10_method_1_code 14 = .ok (.aload_n 0, 1) := by decide +kernel
theorem own_d1_15 : decode prog_10_method_1_code 15 = .ok (.new 17, 3) := by decide +kernel
theorem own_d1_18 : decode prog_10_method_1_code 18 = .ok (.dup, 1) := by decide +kernel
theorem own_d1_19 : decode prog_10_method_1_code 19 = .ok (.lload_n 3, 1) := by decide +kernel
theorem own_d1_20 : decode prog_10_method_1_code 20 = .ok (.invokespecial 19, 3) := by decide +kernel
theorem own_d1_23 : decode prog_10_method_1_code 23 = .ok (.putfield 22, 3) := by decide +kernel
theorem own_d1_26 : decode prog_10_method_1_code 26 = .ok (.return_, 1) := by decide +kernel
theorem own_pn_Filter : plainName "com/example/tallymark/tallymark/Filter" = true := by first | (simp [plainName, overriddenIn]; done) | decide +kernel
theorem own_ef1 (m : MethodId) (this : Addr) (u0 : Int32) (u1 : Int32) (q3 : Int64) : entryFrame m #[(.ref this), (.int u0), (.int u1), (.long q3)] 5 = mkF m 0 #[.val (.ref this), .val (.int u0), .val (.int u1), .val (.long q3), .second] [] := by first | (simp [entryFrame, mkF, argsToLocals, Value.category]; done) | rfl
theorem own_pd_2 : parseMethodDescriptor "(J)V" = some ⟨[.long], none⟩ := by decide +kernel
def own_q_own_r1 (Z : State) (this : Addr) (u0 : Int32) (u1 : Int32) (q3 : Int64) (h0 : Heap) (n0 : Nat) (v : Option Value) (h : Heap) (L : List Loc) : Prop := v = none ∧ Fr n0 L ∧ Keep h0 h [this] ∧ Fld Z h this "com/example/tallymark/tallymark/Filter" "cellCount" "I" (.int u0) ∧ Fld Z h this "com/example/tallymark/tallymark/Filter" "twoCountersPerItem" "Z" (.int u1)
set_option maxRecDepth 65536 in
set_option maxHeartbeats 40000000 in
theorem own_r1 (l : Launch) (Z : State) (a0 : Array Value) (hw : ∀ d ∈ tables_1, d.before a0 Z = true) (ws : List Jvm.Cond) (this : Addr) (u0 : Int32) (u1 : Int32) (q3 : Int64) (h0 : Heap) (n0 : Nat) (Z0 : n0 ≤ h0.size) (hz : u1 &&& 1 = u1) (E_this : Exa Z h0 this "com/example/tallymark/tallymark/Filter") (F_this_cellCount : Fld Z h0 this "com/example/tallymark/tallymark/Filter" "cellCount" "I" (.int (0 : Int32))) (F_this_twoCountersPerItem : Fld Z h0 this "com/example/tallymark/tallymark/Filter" "twoCountersPerItem" "Z" (.int (0 : Int32))) (F_this_hash : Fld Z h0 this "com/example/tallymark/tallymark/Filter" "hash" "Lcom/example/tallymark/tallymark/SeededHash;" .null) (ge_this : n0 ≤ this) :
    MetFree l (⟨"com/example/tallymark/tallymark/Filter", "<init>", "(IZJ)V"⟩ : MethodName) (head1 (Jvm.Cond.code (⟨"com/example/tallymark/tallymark/Filter", "<init>", "(IZJ)V"⟩ : MethodName) prog_10_method_1_code 5 none :: ws) ({ frames := 2, cells := 1, slots := 1, locals := 32 } : Room)) (fun a U => a = #[(.ref this), (.int u0), (.int u1), (.long q3)] ∧ Z.Warmed39 U.vm ∧ U.heap = h0) (fun _ _ _ _ _ => True) (fun _ U o U' => ∃ v L, o = .returned v ∧ own_q_own_r1 Z this u0 u1 q3 h0 n0 v U'.heap L ∧ FrameEnd U o U' L ({ frames := 2, cells := 1, slots := 1, locals := 32 } : Room).cells ({ frames := 2, cells := 1, slots := 1, locals := 32 } : Room).slots) := by
  refine MetFree.of_bodySF (plainFor_of_name own_pn_Filter) hisR ?_
  intro p e s m args below meth c T0 Bd hml0 hP hK
  obtain ⟨rfl, hZ, hh⟩ := hP
  have hx := Bd.exec
  have hby := Bd.bytes
  have hml : c.maxLocals = 5 := hml0
  have hown : s.vm.findClass "com/example/tallymark/tallymark/Filter" = some m.cls := findClass_of_methodNamed Bd.named
  have hnm := (name_of_methodNamed Bd.named Bd.method).1
  have hret : meth.sig.returnType = none := Bd.returns
  have hlk : meth.locks = false := BodyLoose.notSynchronized Bd
  have X0 : Stand p l e ({ frames := 2, cells := 1, slots := 1, locals := 32 } : Room) s m #[(.ref this), (.int u0), (.int u1), (.long q3)] below meth c T0 [] 0 0 := Stand.of_body Bd
  have e0 : T0.heap = h0 := by rw [← hh, Bd.state]; rfl
  have N0 := Fr.nil n0
  refine own_start (own_ef1 m this u0 u1 q3) (Q := fun (v : Option Value) (h : Heap) (L : List Loc) => v = none ∧ Fr n0 L ∧ Keep h0 h [this] ∧ Fld Z h this "com/example/tallymark/tallymark/Filter" "cellCount" "I" (.int u0) ∧ Fld Z h this "com/example/tallymark/tallymark/Filter" "twoCountersPerItem" "Z" (.int u1)) (k := 1) (j := 1) ?_
  show own_Go p e below T0 (mkF m 0 #[.val (.ref this), .val (.int u0), .val (.int u1), .val (.long q3), .second] []) _
  have K0 := Keep.refl h0 [this]
  refine own_s_aloadN X0.here hx (hb hby own_d1_0) rfl rfl ?_
  obtain ⟨T5, X5, e5, st5⟩ := initO X0 hx hZ hown (hw _ (List.mem_of_getElem? (i := 7) rfl)) (hw _ (List.mem_of_getElem? (i := 8) rfl)) (hw _ (List.mem_of_getElem? (i := 9) rfl)) e0 (g := (mkF m 1 #[.val (.ref this), .val (.int u0), .val (.int u1), .val (.long q3), .second] [(.ref this)])) rfl (by rw [hml]; rfl) rfl (hb hby own_d1_1) (by decide) (W := 0) (by show 2 * 0 + _ ≤ _; exact Nat.le_of_eq rfl) (by decide)
  refine own_by st5 ?_
  show own_Go p e below T5 (mkF m 4 #[.val (.ref this), .val (.int u0), .val (.int u1), .val (.long q3), .second] []) _
  refine own_s_aloadN X5.here hx (hb hby own_d1_4) rfl rfl ?_
  refine own_s_iloadN X5.here hx (hb hby own_d1_5) rfl ?_
  obtain ⟨T6, h6, X6, e6, W6, st6⟩ := putF X5 hx hZ hown (host := "") (Or.inl (hw _ (List.mem_of_getElem? (i := 10) rfl))) Via.refl e5 F_this_cellCount E_this (Or.inr ⟨(hw _ (List.mem_of_getElem? (i := 11) rfl)), rfl, hnm⟩) (hw _ (List.mem_of_getElem? (i := 2) rfl)) (ty := .int) (by decide) rfl rfl (g := (mkF m 6 #[.val (.ref this), .val (.int u0), .val (.int u1), .val (.long q3), .second] [(.int u0), (.ref this)])) rfl rfl (hb hby own_d1_6)
  have fw6 := F_this_cellCount.same W6
  have f7 := E_this.wr W6
  have f8 := F_this_twoCountersPerItem.other W6 (Or.inr (slot_ne (Or.inr (hw _ (List.mem_of_getElem? (i := 13) rfl))) (Or.inr (hw _ (List.mem_of_getElem? (i := 11) rfl))) (by decide) (t := .boolean) (t' := .int) (by decide) (by decide)))
  have f9 := F_this_hash.other W6 (Or.inr (slot_ne (Or.inr (hw _ (List.mem_of_getElem? (i := 30) rfl))) (Or.inr (hw _ (List.mem_of_getElem? (i := 11) rfl))) (by decide) (t := (.object "com/example/tallymark/tallymark/SeededHash")) (t' := .int) (by decide) (by decide)))
  have N6 := Fr.snoc X6 N0 ge_this
  have SZ6 : n0 ≤ h6.size := by rw [W6.size]; exact Z0
  have K6 := K0.wr W6 (Or.inl (List.mem_of_getElem? (i := 0) rfl))
  refine own_by st6 ?_
  show own_Go p e below T6 (mkF m 9 #[.val (.ref this), .val (.int u0), .val (.int u1), .val (.long q3), .second] []) _
  refine own_s_aloadN X6.here hx (hb hby own_d1_9) rfl rfl ?_
  refine own_s_iloadN X6.here hx (hb hby own_d1_10) rfl ?_
  obtain ⟨T10, h10, X10, e10, W10, st10⟩ := putFN X6 hx hZ hown (hw _ (List.mem_of_getElem? (i := 12) rfl)) Via.refl e6 f8 f7 (Or.inr ⟨(hw _ (List.mem_of_getElem? (i := 13) rfl)), rfl, hnm⟩) (hw _ (List.mem_of_getElem? (i := 2) rfl)) (ty := .boolean) (v' := (.int u1)) (by decide) (own_narZ hz) (own_fitZ hz) (g := (mkF m 11 #[.val (.ref this), .val (.int u0), .val (.int u1), .val (.long q3), .second] [(.int u1), (.ref this)])) rfl rfl (hb hby own_d1_11)
  have fw10 := f8.same W10
  have f11 := f7.wr W10
  have f12 := fw6.other W10 (Or.inr (slot_ne (Or.inr (hw _ (List.mem_of_getElem? (i := 11) rfl))) (Or.inr (hw _ (List.mem_of_getElem? (i := 13) rfl))) (by decide) (t := .int) (t' := .boolean) (by decide) (by decide)))
  have f13 := f9.other W10 (Or.inr (slot_ne (Or.inr (hw _ (List.mem_of_getElem? (i := 30) rfl))) (Or.inr (hw _ (List.mem_of_getElem? (i := 13) rfl))) (by decide) (t := (.object "com/example/tallymark/tallymark/SeededHash")) (t' := .boolean) (by decide) (by decide)))
  have N10 := Fr.snoc X10 N6 ge_this
  have SZ10 : n0 ≤ h10.size := by rw [W10.size]; exact SZ6
  have K10 := K6.wr W10 (Or.inl (List.mem_of_getElem? (i := 0) rfl))
  refine own_by st10 ?_
  show own_Go p e below T10 (mkF m 14 #[.val (.ref this), .val (.int u0), .val (.int u1), .val (.long q3), .second] []) _
  refine own_s_aloadN X10.here hx (hb hby own_d1_14) rfl rfl ?_
  obtain ⟨T14, h14, X14, e14, E14, A14, D14, -, st14⟩ := newO X10 hx hZ hown (hw _ (List.mem_of_getElem? (i := 14) rfl)) (hw _ (List.mem_of_getElem? (i := 15) rfl)) (hw _ (List.mem_of_getElem? (i := 16) rfl)) e10 (g := (mkF m 15 #[.val (.ref this), .val (.int u0), .val (.int u1), .val (.long q3), .second] [(.ref this)])) rfl (hb hby own_d1_15) (by decide) (by decide)
  obtain ⟨b14, g14⟩ : ∃ z, z = h10.size := ⟨_, rfl⟩
  rw [← g14] at A14 D14 st14
  have ge_b14 : n0 ≤ b14 := Nat.le_trans SZ10 (Nat.le_of_eq g14.symm)
  have sz_b14 : h0.size ≤ b14 := Nat.le_trans K10.1 (Nat.le_of_eq g14.symm)
  have ne_this_b14 : this ≠ b14 := Nat.ne_of_lt (Nat.lt_of_lt_of_le f11.lt (Nat.le_of_eq g14.symm))
  have f15 := f11.ext E14
  have f16 := f12.ext E14
  have f17 := fw10.ext E14
  have f18 := f13.ext E14
  have SZ14 : n0 ≤ h14.size := Nat.le_trans SZ10 E14.1
  have K14 := K10.ext E14
  have f19 : Fld Z h14 b14 "com/example/tallymark/tallymark/SeededHash" "seedBits" "J" (.long (0 : Int64)) := D14 (Or.inr (hw _ (List.mem_of_getElem? (i := 28) rfl))) (ty := .long) (by decide)
  refine own_by st14 ?_
  show own_Go p e below T14 (mkF m 18 #[.val (.ref this), .val (.int u0), .val (.int u1), .val (.long q3), .second] [(.ref b14), (.ref this)]) _
  refine own_s_dup X14.here hx (hb hby own_d1_18) rfl ?_
  refine own_s_lloadN X14.here hx (hb hby own_d1_19) rfl ?_
  obtain ⟨_, _, ⟨T20, L20, k20, n20⟩, -, X20, ⟨Lc20, hQ20, l20, y20, z20⟩, st20⟩ := X14.specialBack hx (y := (⟨"com/example/tallymark/tallymark/SeededHash", "<init>", "(J)V"⟩ : MethodName)) rfl hown (mvT hZ (hw _ (List.mem_of_getElem? (i := 17) rfl))) (mvT hZ (hw _ (List.mem_of_getElem? (i := 18) rfl))) (mvT hZ (hw _ (List.mem_of_getElem? (i := 19) rfl))) (by decide) (backOf (W := 2) (own_r3 l Z a0 hw [] b14 q3  h14 n0 SZ14 A14 f19 ge_b14) hZ (hw _ (List.mem_of_getElem? (i := 19) rfl)) (hw _ (List.mem_of_getElem? (i := 16) rfl)) (by decide) (by decide)) (g := (mkF m 20 #[.val (.ref this), .val (.int u0), .val (.int u1), .val (.long q3), .second] [(.long q3), (.ref b14), (.ref b14), (.ref this)])) rfl (by rw [hml]; rfl) (Steps.refl _) (a := b14) (argsL := [(.long q3)]) (rest := [(.ref b14), (.ref this)]) (lenOf own_pd_2 rfl) rfl (by show 2 * 0 + _ ≤ _; exact Nat.le_of_eq rfl) (hb hby own_d1_20) (fun _ _ => ⟨rfl, e14, (by decide : 1 + 0 ≤ _), (by decide : 1 + 0 ≤ _)⟩)
  dsimp only [Pt.U, Pt.locs, Pt.cells, Pt.slots] at X20 l20 y20 z20 st20 hQ20
  subst l20 y20 z20
  obtain ⟨rfl, N20q, K20⟩ := hQ20
  have N20 := Fr.app N10 N20q
  have f21 := f15.keep K20
  have f22 := f16.keep K20 (ninS ne_this_b14 nin0)
  have f23 := f17.keep K20 (ninS ne_this_b14 nin0)
  have f24 := f18.keep K20 (ninS ne_this_b14 nin0)
  have f25 := A14.keep K20
  have SZ20 : n0 ≤ T20.heap.size := Nat.le_trans SZ14 K20.1
  have KC20 := K14.trans K20 (allS (Or.inr sz_b14) all0)
  refine own_by (fun t k => st20.trans k) ?_
  show own_Go p e below T20 (mkF m 23 #[.val (.ref this), .val (.int u0), .val (.int u1), .val (.long q3), .second] [(.ref b14), (.ref this)]) _
  obtain ⟨T26, h26, X26, e26, W26, st26⟩ := putF X20 hx hZ hown (host := "") (Or.inl (hw _ (List.mem_of_getElem? (i := 29) rfl))) Via.refl rfl f24 f21 (Or.inr ⟨(hw _ (List.mem_of_getElem? (i := 30) rfl)), rfl, hnm⟩) (hw _ (List.mem_of_getElem? (i := 2) rfl)) (ty := (.object "com/example/tallymark/tallymark/SeededHash")) (by decide) rfl rfl (g := (mkF m 23 #[.val (.ref this), .val (.int u0), .val (.int u1), .val (.long q3), .second] [(.ref b14), (.ref this)])) rfl rfl (hb hby own_d1_23)
  have fw26 := f24.same W26
  have f27 := f21.wr W26
  have f28 := f22.other W26 (Or.inr (slot_ne (Or.inr (hw _ (List.mem_of_getElem? (i := 11) rfl))) (Or.inr (hw _ (List.mem_of_getElem? (i := 30) rfl))) (by decide) (t := .int) (t' := (.object "com/example/tallymark/tallymark/SeededHash")) (by decide) (by decide)))
  have f29 := f23.other W26 (Or.inr (slot_ne (Or.inr (hw _ (List.mem_of_getElem? (i := 13) rfl))) (Or.inr (hw _ (List.mem_of_getElem? (i := 30) rfl))) (by decide) (t := .boolean) (t' := (.object "com/example/tallymark/tallymark/SeededHash")) (by decide) (by decide)))
  have f30 := f25.wr W26
  have N26 := Fr.snoc X26 N20 ge_this
  have SZ26 : n0 ≤ h26.size := by rw [W26.size]; exact SZ20
  have K26 := KC20.wr W26 (Or.inl (List.mem_of_getElem? (i := 0) rfl))
  refine own_by st26 ?_
  show own_Go p e below T26 (mkF m 26 #[.val (.ref this), .val (.int u0), .val (.int u1), .val (.long q3), .second] []) _
  refine own_retV X26 hx hret hlk (hb hby own_d1_26) (by decide) (by decide) ?_
  rw [e26]
  exact ⟨rfl, N26, K26, f28, f29⟩
def own_ce (b : Int64) (cc : Int32) : Int32 := (((((b * (cc.toInt64)).toUInt64 >>> ((32 : Int32) &&& 0x3f).toInt64.toUInt64).toInt64)).toInt32)
theorem own_d5_0 : decode prog_10_method_9_code 0 = .ok (.iload_n 3, 1) := by decide +kernel
theorem own_d5_1 : decode prog_10_method_9_code 1 = .ok (.ifCond .eq 10, 3) := by decide +kernel
theorem own_d5_4 : decode prog_10_method_9_code 4 = .ok (.aload_n 0, 1) := by decide +kernel
theorem own_d5_5 : decode prog_10_method_9_code 5 = .ok (.getfield 13, 3) := by decide +kernel
theorem own_d5_8 : decode prog_10_method_9_code 8 = .ok (.ifCond .ne 10, 3) := by decide +kernel
theorem own_d5_11 : decode prog_10_method_9_code 11 = .ok (.lload_n 1, 1) := by decide +kernel
theorem own_d5_12 : decode prog_10_method_9_code 12 = .ok (.bipush 32, 2) := by decide +kernel
theorem own_d5_14 : decode prog_10_method_9_code 14 = .ok (.lushr, 1) := by decide +kernel
theorem own_d5_15 : decode prog_10_method_9_code 15 = .ok (.goto 8, 3) := by decide +kernel
theorem own_d5_18 : decode prog_10_method_9_code 18 = .ok (.lload_n 1, 1) := by decide +kernel
theorem own_d5_19 : decode prog_10_method_9_code 19 = .ok (.ldc2_w 55, 3) := by decide +kernel
theorem own_d5_22 : decode prog_10_method_9_code 22 = .ok (.land, 1) := by decide +kernel
theorem own_d5_23 : decode prog_10_method_9_code 23 = .ok (.lstore 4, 2) := by decide +kernel
theorem own_d5_25 : decode prog_10_method_9_code 25 = .ok (.lload 4, 2) := by decide +kernel
theorem own_d5_27 : decode prog_10_method_9_code 27 = .ok (.aload_n 0, 1) := by decide +kernel
theorem own_d5_28 : decode prog_10_method_9_code 28 = .ok (.getfield 7, 3) := by decide +kernel
theorem own_d5_31 : decode prog_10_method_9_code 31 = .ok (.i2l, 1) := by decide +kernel
theorem own_d5_32 : decode prog_10_method_9_code 32 = .ok (.lmul, 1) := by decide +kernel
theorem own_d5_33 : decode prog_10_method_9_code 33 = .ok (.bipush 32, 2) := by decide +kernel
theorem own_d5_35 : decode prog_10_method_9_code 35 = .ok (.lushr, 1) := by decide +kernel
theorem own_d5_36 : decode prog_10_method_9_code 36 = .ok (.l2i, 1) := by decide +kernel
theorem own_d5_37 : decode prog_10_method_9_code 37 = .ok (.ireturn, 1) := by decide +kernel
theorem own_ef5 (m : MethodId) (this : Addr) (q1 : Int64) (ix : Int32) : entryFrame m #[(.ref this), (.long q1), (.int ix)] 6 = mkF m 0 #[.val (.ref this), .val (.long q1), .second, .val (.int ix), .unset, .unset] [] := by first | (simp [entryFrame, mkF, argsToLocals, Value.category]; done) | rfl
def own_q_own_c0 (Z : State) (this : Addr) (q1 : Int64) (ix : Int32) (cc tw : Int32) (h0 : Heap) (n0 : Nat) (v : Option Value) (h : Heap) (L : List Loc) : Prop := v = some (.int (own_ce ((q1.toUInt64 >>> ((32 : Int32) &&& 0x3f).toInt64.toUInt64).toInt64) cc)) ∧ Fr n0 L ∧ h = h0
set_option maxRecDepth 65536 in
set_option maxHeartbeats 40000000 in
theorem own_c0 (l : Launch) (Z : State) (a0 : Array Value) (hw : ∀ d ∈ tables_1, d.before a0 Z = true) (ws : List Jvm.Cond) (this : Addr) (q1 : Int64) (ix : Int32) (cc tw : Int32) (h0 : Heap) (n0 : Nat) (Z0 : n0 ≤ h0.size) (hix : ix = (0 : Int32)) (F_this_cellCount : Fld Z h0 this "com/example/tallymark/tallymark/Filter" "cellCount" "I" (.int cc)) (F_this_twoCountersPerItem : Fld Z h0 this "com/example/tallymark/tallymark/Filter" "twoCountersPerItem" "Z" (.int tw)) :
    MetFree l (⟨"com/example/tallymark/tallymark/Filter", "cell", "(JI)I"⟩ : MethodName) (head1 (Jvm.Cond.code (⟨"com/example/tallymark/tallymark/Filter", "cell", "(JI)I"⟩ : MethodName) prog_10_method_9_code 6 (some .int) :: ws) ({ frames := 0, cells := 0, slots := 0, locals := 0 } : Room)) (fun a U => a = #[(.ref this), (.long q1), (.int ix)] ∧ Z.Warmed39 U.vm ∧ U.heap = h0) (fun _ _ _ _ _ => True) (fun _ U o U' => ∃ v L, o = .returned v ∧ own_q_own_c0 Z this q1 ix cc tw h0 n0 v U'.heap L ∧ FrameEnd U o U' L ({ frames := 0, cells := 0, slots := 0, locals := 0 } : Room).cells ({ frames := 0, cells := 0, slots := 0, locals := 0 } : Room).slots) := by
  refine MetFree.of_bodySF (plainFor_of_name own_pn_Filter) hisR ?_
  intro p e s m args below meth c T0 Bd hml0 hP hK
  obtain ⟨rfl, hZ, hh⟩ := hP
  have hx := Bd.exec
  have hby := Bd.bytes
  have hml : c.maxLocals = 6 := hml0
  have hown : s.vm.findClass "com/example/tallymark/tallymark/Filter" = some m.cls := findClass_of_methodNamed Bd.named
  have hnm := (name_of_methodNamed Bd.named Bd.method).1
  have hret : meth.sig.returnType = (some .int) := Bd.returns
  have hlk : meth.locks = false := BodyLoose.notSynchronized Bd
  have X0 : Stand p l e ({ frames := 0, cells := 0, slots := 0, locals := 0 } : Room) s m #[(.ref this), (.long q1), (.int ix)] below meth c T0 [] 0 0 := Stand.of_body Bd
  have e0 : T0.heap = h0 := by rw [← hh, Bd.state]; rfl
  have N0 := Fr.nil n0
  refine own_start (own_ef5 m this q1 ix) (Q := fun (v : Option Value) (h : Heap) (L : List Loc) => v = some (.int (own_ce ((q1.toUInt64 >>> ((32 : Int32) &&& 0x3f).toInt64.toUInt64).toInt64) cc)) ∧ Fr n0 L ∧ h = h0) (k := 0) (j := 0) ?_
  show own_Go p e below T0 (mkF m 0 #[.val (.ref this), .val (.long q1), .second, .val (.int ix), .unset, .unset] []) _
  subst hix
  show own_Go p e below T0 (mkF m 0 #[.val (.ref this), .val (.long q1), .second, .val (.int (0 : Int32)), .unset, .unset] []) _
  refine own_s_iloadN X0.here hx (hb hby own_d5_0) rfl ?_
  show own_Go p e below T0 (mkF m 1 #[.val (.ref this), .val (.long q1), .second, .val (.int (0 : Int32)), .unset, .unset] [(.int (0 : Int32))]) _
  refine own_s_ifYes X0.here hx 11 (hb hby own_d5_1) (Jvm.Free.XT.i0_eq_t ((by decide))) (by decide) (by decide) ?_
  refine own_s_lloadN X0.here hx (hb hby own_d5_11) rfl ?_
  refine own_s_bipush X0.here hx (32 : Int32) (hb hby own_d5_12) rfl ?_
  refine own_s_lushr X0.here hx (hb hby own_d5_14) ?_
  show own_Go p e below T0 (mkF m 15 #[.val (.ref this), .val (.long q1), .second, .val (.int (0 : Int32)), .unset, .unset] [(.long ((q1.toUInt64 >>> ((32 : Int32) &&& 0x3f).toInt64.toUInt64).toInt64))]) _
  refine own_s_goto X0.here hx 23 (hb hby own_d5_15) (by decide) (by decide) ?_
  refine own_s_lstore X0.here hx #[.val (.ref this), .val (.long q1), .second, .val (.int (0 : Int32)), .val (.long ((q1.toUInt64 >>> ((32 : Int32) &&& 0x3f).toInt64.toUInt64).toInt64)), .second] (hb hby own_d5_23) rfl ?_
  refine own_s_lload X0.here hx (hb hby own_d5_25) rfl ?_
  refine own_s_aloadN X0.here hx (hb hby own_d5_27) rfl rfl ?_
  obtain ⟨T31, X31, e31, st31⟩ := getF X0 hx hZ hown (host := "") (Or.inl (hw _ (List.mem_of_getElem? (i := 10) rfl))) Via.refl e0 F_this_cellCount (g := (mkF m 28 #[.val (.ref this), .val (.long q1), .second, .val (.int (0 : Int32)), .val (.long ((q1.toUInt64 >>> ((32 : Int32) &&& 0x3f).toInt64.toUInt64).toInt64)), .second] [(.ref this), (.long ((q1.toUInt64 >>> ((32 : Int32) &&& 0x3f).toInt64.toUInt64).toInt64))])) rfl rfl (hb hby own_d5_28)
  refine own_by st31 ?_
  show own_Go p e below T31 (mkF m 31 #[.val (.ref this), .val (.long q1), .second, .val (.int (0 : Int32)), .val (.long ((q1.toUInt64 >>> ((32 : Int32) &&& 0x3f).toInt64.toUInt64).toInt64)), .second] [(.int cc), (.long ((q1.toUInt64 >>> ((32 : Int32) &&& 0x3f).toInt64.toUInt64).toInt64))]) _
  refine own_s_i2l X31.here hx (hb hby own_d5_31) ?_
  refine own_s_lmul X31.here hx (hb hby own_d5_32) ?_
  refine own_s_bipush X31.here hx (32 : Int32) (hb hby own_d5_33) rfl ?_
  refine own_s_lushr X31.here hx (hb hby own_d5_35) ?_
  refine own_s_l2i X31.here hx (hb hby own_d5_36) ?_
  refine own_retI X31 hx hret hlk (hb hby own_d5_37) (by decide) (by decide) ?_
  exact ⟨rfl, N0, e31⟩
def own_q_own_c1n (Z : State) (this : Addr) (q1 : Int64) (ix : Int32) (cc tw : Int32) (h0 : Heap) (n0 : Nat) (v : Option Value) (h : Heap) (L : List Loc) : Prop := v = some (.int (own_ce ((q1.toUInt64 >>> ((32 : Int32) &&& 0x3f).toInt64.toUInt64).toInt64) cc)) ∧ Fr n0 L ∧ h = h0
set_option maxRecDepth 65536 in
set_option maxHeartbeats 40000000 in
theorem own_c1n (l : Launch) (Z : State) (a0 : Array Value) (hw : ∀ d ∈ tables_1, d.before a0 Z = true) (ws : List Jvm.Cond) (this : Addr) (q1 : Int64) (ix : Int32) (cc tw : Int32) (h0 : Heap) (n0 : Nat) (Z0 : n0 ≤ h0.size) (hix : ix = (1 : Int32)) (htw : tw = (0 : Int32)) (F_this_cellCount : Fld Z h0 this "com/example/tallymark/tallymark/Filter" "cellCount" "I" (.int cc)) (F_this_twoCountersPerItem : Fld Z h0 this "com/example/tallymark/tallymark/Filter" "twoCountersPerItem" "Z" (.int tw)) :
    MetFree l (⟨"com/example/tallymark/tallymark/Filter", "cell", "(JI)I"⟩ : MethodName) (head1 (Jvm.Cond.code (⟨"com/example/tallymark/tallymark/Filter", "cell", "(JI)I"⟩ : MethodName) prog_10_method_9_code 6 (some .int) :: ws) ({ frames := 0, cells := 0, slots := 0, locals := 0 } : Room)) (fun a U => a = #[(.ref this), (.long q1), (.int ix)] ∧ Z.Warmed39 U.vm ∧ U.heap = h0) (fun _ _ _ _ _ => True) (fun _ U o U' => ∃ v L, o = .returned v ∧ own_q_own_c1n Z this q1 ix cc tw h0 n0 v U'.heap L ∧ FrameEnd U o U' L ({ frames := 0, cells := 0, slots := 0, locals := 0 } : Room).cells ({ frames := 0, cells := 0, slots := 0, locals := 0 } : Room).slots) := by
  refine MetFree.of_bodySF (plainFor_of_name own_pn_Filter) hisR ?_
  intro p e s m args below meth c T0 Bd hml0 hP hK
  obtain ⟨rfl, hZ, hh⟩ := hP
  have hx := Bd.exec
  have hby := Bd.bytes
  have hml : c.maxLocals = 6 := hml0
  have hown : s.vm.findClass "com/example/tallymark/tallymark/Filter" = some m.cls := findClass_of_methodNamed Bd.named
  have hnm := (name_of_methodNamed Bd.named Bd.method).1
  have hret : meth.sig.returnType = (some .int) := Bd.returns
  have hlk : meth.locks = false := BodyLoose.notSynchronized Bd
  have X0 : Stand p l e ({ frames := 0, cells := 0, slots := 0, locals := 0 } : Room) s m #[(.ref this), (.long q1), (.int ix)] below meth c T0 [] 0 0 := Stand.of_body Bd
  have e0 : T0.heap = h0 := by rw [← hh, Bd.state]; rfl
  have N0 := Fr.nil n0
  refine own_start (own_ef5 m this q1 ix) (Q := fun (v : Option Value) (h : Heap) (L : List Loc) => v = some (.int (own_ce ((q1.toUInt64 >>> ((32 : Int32) &&& 0x3f).toInt64.toUInt64).toInt64) cc)) ∧ Fr n0 L ∧ h = h0) (k := 0) (j := 0) ?_
  show own_Go p e below T0 (mkF m 0 #[.val (.ref this), .val (.long q1), .second, .val (.int ix), .unset, .unset] []) _
  subst hix
  subst htw
  show own_Go p e below T0 (mkF m 0 #[.val (.ref this), .val (.long q1), .second, .val (.int (1 : Int32)), .unset, .unset] []) _
  refine own_s_iloadN X0.here hx (hb hby own_d5_0) rfl ?_
  refine own_s_ifNo X0.here hx (hb hby own_d5_1) (Jvm.Free.XT.i0_eq_f ((by decide))) ?_
  refine own_s_aloadN X0.here hx (hb hby own_d5_4) rfl rfl ?_
  obtain ⟨T32, X32, e32, st32⟩ := getF X0 hx hZ hown (host := "") (Or.inl (hw _ (List.mem_of_getElem? (i := 12) rfl))) Via.refl e0 F_this_twoCountersPerItem (g := (mkF m 5 #[.val (.ref this), .val (.long q1), .second, .val (.int (1 : Int32)), .unset, .unset] [(.ref this)])) rfl rfl (hb hby own_d5_5)
  refine own_by st32 ?_
  show own_Go p e below T32 (mkF m 8 #[.val (.ref this), .val (.long q1), .second, .val (.int (1 : Int32)), .unset, .unset] [(.int (0 : Int32))]) _
  refine own_s_ifNo X32.here hx (hb hby own_d5_8) (Jvm.Free.XT.i0_ne_f ((by decide))) ?_
  refine own_s_lloadN X32.here hx (hb hby own_d5_11) rfl ?_
  refine own_s_bipush X32.here hx (32 : Int32) (hb hby own_d5_12) rfl ?_
  refine own_s_lushr X32.here hx (hb hby own_d5_14) ?_
  show own_Go p e below T32 (mkF m 15 #[.val (.ref this), .val (.long q1), .second, .val (.int (1 : Int32)), .unset, .unset] [(.long ((q1.toUInt64 >>> ((32 : Int32) &&& 0x3f).toInt64.toUInt64).toInt64))]) _
  refine own_s_goto X32.here hx 23 (hb hby own_d5_15) (by decide) (by decide) ?_
  refine own_s_lstore X32.here hx #[.val (.ref this), .val (.long q1), .second, .val (.int (1 : Int32)), .val (.long ((q1.toUInt64 >>> ((32 : Int32) &&& 0x3f).toInt64.toUInt64).toInt64)), .second] (hb hby own_d5_23) rfl ?_
  refine own_s_lload X32.here hx (hb hby own_d5_25) rfl ?_
  refine own_s_aloadN X32.here hx (hb hby own_d5_27) rfl rfl ?_
  obtain ⟨T33, X33, e33, st33⟩ := getF X32 hx hZ hown (host := "") (Or.inl (hw _ (List.mem_of_getElem? (i := 10) rfl))) Via.refl e32 F_this_cellCount (g := (mkF m 28 #[.val (.ref this), .val (.long q1), .second, .val (.int (1 : Int32)), .val (.long ((q1.toUInt64 >>> ((32 : Int32) &&& 0x3f).toInt64.toUInt64).toInt64)), .second] [(.ref this), (.long ((q1.toUInt64 >>> ((32 : Int32) &&& 0x3f).toInt64.toUInt64).toInt64))])) rfl rfl (hb hby own_d5_28)
  refine own_by st33 ?_
  show own_Go p e below T33 (mkF m 31 #[.val (.ref this), .val (.long q1), .second, .val (.int (1 : Int32)), .val (.long ((q1.toUInt64 >>> ((32 : Int32) &&& 0x3f).toInt64.toUInt64).toInt64)), .second] [(.int cc), (.long ((q1.toUInt64 >>> ((32 : Int32) &&& 0x3f).toInt64.toUInt64).toInt64))]) _
  refine own_s_i2l X33.here hx (hb hby own_d5_31) ?_
  refine own_s_lmul X33.here hx (hb hby own_d5_32) ?_
  refine own_s_bipush X33.here hx (32 : Int32) (hb hby own_d5_33) rfl ?_
  refine own_s_lushr X33.here hx (hb hby own_d5_35) ?_
  refine own_s_l2i X33.here hx (hb hby own_d5_36) ?_
  refine own_retI X33 hx hret hlk (hb hby own_d5_37) (by decide) (by decide) ?_
  exact ⟨rfl, N0, e33⟩
def own_q_own_c1y (Z : State) (this : Addr) (q1 : Int64) (ix : Int32) (cc tw : Int32) (h0 : Heap) (n0 : Nat) (v : Option Value) (h : Heap) (L : List Loc) : Prop := v = some (.int (own_ce (q1 &&& (4294967295 : Int64)) cc)) ∧ Fr n0 L ∧ h = h0
set_option maxRecDepth 65536 in
set_option maxHeartbeats 40000000 in
theorem own_c1y (l : Launch) (Z : State) (a0 : Array Value) (hw : ∀ d ∈ tables_1, d.before a0 Z = true) (ws : List Jvm.Cond) (this : Addr) (q1 : Int64) (ix : Int32) (cc tw : Int32) (h0 : Heap) (n0 : Nat) (Z0 : n0 ≤ h0.size) (hix : ix = (1 : Int32)) (htw : tw = (1 : Int32)) (F_this_cellCount : Fld Z h0 this "com/example/tallymark/tallymark/Filter" "cellCount" "I" (.int cc)) (F_this_twoCountersPerItem : Fld Z h0 this "com/example/tallymark/tallymark/Filter" "twoCountersPerItem" "Z" (.int tw)) :
    MetFree l (⟨"com/example/tallymark/tallymark/Filter", "cell", "(JI)I"⟩ : MethodName) (head1 (Jvm.Cond.code (⟨"com/example/tallymark/tallymark/Filter", "cell", "(JI)I"⟩ : MethodName) prog_10_method_9_code 6 (some .int) :: ws) ({ frames := 0, cells := 0, slots := 0, locals := 0 } : Room)) (fun a U => a = #[(.ref this), (.long q1), (.int ix)] ∧ Z.Warmed39 U.vm ∧ U.heap = h0) (fun _ _ _ _ _ => True) (fun _ U o U' => ∃ v L, o = .returned v ∧ own_q_own_c1y Z this q1 ix cc tw h0 n0 v U'.heap L ∧ FrameEnd U o U' L ({ frames := 0, cells := 0, slots := 0, locals := 0 } : Room).cells ({ frames := 0, cells := 0, slots := 0, locals := 0 } : Room).slots) := by
  refine MetFree.of_bodySF (plainFor_of_name own_pn_Filter) hisR ?_
  intro p e s m args below meth c T0 Bd hml0 hP hK
  obtain ⟨rfl, hZ, hh⟩ := hP
  have hx := Bd.exec
  have hby := Bd.bytes
  have hml : c.maxLocals = 6 := hml0
  have hown : s.vm.findClass "com/example/tallymark/tallymark/Filter" = some m.cls := findClass_of_methodNamed Bd.named
  have hnm := (name_of_methodNamed Bd.named Bd.method).1
  have hret : meth.sig.returnType = (some .int) := Bd.returns
  have hlk : meth.locks = false := BodyLoose.notSynchronized Bd
  have X0 : Stand p l e ({ frames := 0, cells := 0, slots := 0, locals := 0 } : Room) s m #[(.ref this), (.long q1), (.int ix)] below meth c T0 [] 0 0 := Stand.of_body Bd
  have e0 : T0.heap = h0 := by rw [← hh, Bd.state]; rfl
  have N0 := Fr.nil n0
  refine own_start (own_ef5 m this q1 ix) (Q := fun (v : Option Value) (h : Heap) (L : List Loc) => v = some (.int (own_ce (q1 &&& (4294967295 : Int64)) cc)) ∧ Fr n0 L ∧ h = h0) (k := 0) (j := 0) ?_
  show own_Go p e below T0 (mkF m 0 #[.val (.ref this), .val (.long q1), .second, .val (.int ix), .unset, .unset] []) _
  subst hix
  subst htw
  show own_Go p e below T0 (mkF m 0 #[.val (.ref this), .val (.long q1), .second, .val (.int (1 : Int32)), .unset, .unset] []) _
  refine own_s_iloadN X0.here hx (hb hby own_d5_0) rfl ?_
  refine own_s_ifNo X0.here hx (hb hby own_d5_1) (Jvm.Free.XT.i0_eq_f ((by decide))) ?_
  refine own_s_aloadN X0.here hx (hb hby own_d5_4) rfl rfl ?_
  obtain ⟨T34, X34, e34, st34⟩ := getF X0 hx hZ hown (host := "") (Or.inl (hw _ (List.mem_of_getElem? (i := 12) rfl))) Via.refl e0 F_this_twoCountersPerItem (g := (mkF m 5 #[.val (.ref this), .val (.long q1), .second, .val (.int (1 : Int32)), .unset, .unset] [(.ref this)])) rfl rfl (hb hby own_d5_5)
  refine own_by st34 ?_
  show own_Go p e below T34 (mkF m 8 #[.val (.ref this), .val (.long q1), .second, .val (.int (1 : Int32)), .unset, .unset] [(.int (1 : Int32))]) _
  refine own_s_ifYes X34.here hx 18 (hb hby own_d5_8) (Jvm.Free.XT.i0_ne_t ((by decide))) (by decide) (by decide) ?_
  refine own_s_lloadN X34.here hx (hb hby own_d5_18) rfl ?_
  refine own_by (fun tq_ kq_ => X34.ldc2Long hx hown (mvT hZ (hw _ (List.mem_of_getElem? (i := 36) rfl))) (g := (mkF m 19 #[.val (.ref this), .val (.long q1), .second, .val (.int (1 : Int32)), .unset, .unset] [(.long q1)])) rfl (hb hby own_d5_19) tq_ kq_) ?_
  show own_Go p e below T34 (mkF m 22 #[.val (.ref this), .val (.long q1), .second, .val (.int (1 : Int32)), .unset, .unset] [(.long (4294967295 : Int64)), (.long q1)]) _
  refine own_s_land X34.here hx (hb hby own_d5_22) ?_
  refine own_s_lstore X34.here hx #[.val (.ref this), .val (.long q1), .second, .val (.int (1 : Int32)), .val (.long (q1 &&& (4294967295 : Int64))), .second] (hb hby own_d5_23) rfl ?_
  refine own_s_lload X34.here hx (hb hby own_d5_25) rfl ?_
  refine own_s_aloadN X34.here hx (hb hby own_d5_27) rfl rfl ?_
  obtain ⟨T35, X35, e35, st35⟩ := getF X34 hx hZ hown (host := "") (Or.inl (hw _ (List.mem_of_getElem? (i := 10) rfl))) Via.refl e34 F_this_cellCount (g := (mkF m 28 #[.val (.ref this), .val (.long q1), .second, .val (.int (1 : Int32)), .val (.long (q1 &&& (4294967295 : Int64))), .second] [(.ref this), (.long (q1 &&& (4294967295 : Int64)))])) rfl rfl (hb hby own_d5_28)
  refine own_by st35 ?_
  show own_Go p e below T35 (mkF m 31 #[.val (.ref this), .val (.long q1), .second, .val (.int (1 : Int32)), .val (.long (q1 &&& (4294967295 : Int64))), .second] [(.int cc), (.long (q1 &&& (4294967295 : Int64)))]) _
  refine own_s_i2l X35.here hx (hb hby own_d5_31) ?_
  refine own_s_lmul X35.here hx (hb hby own_d5_32) ?_
  refine own_s_bipush X35.here hx (32 : Int32) (hb hby own_d5_33) rfl ?_
  refine own_s_lushr X35.here hx (hb hby own_d5_35) ?_
  refine own_s_l2i X35.here hx (hb hby own_d5_36) ?_
  refine own_retI X35 hx hret hlk (hb hby own_d5_37) (by decide) (by decide) ?_
  exact ⟨rfl, N0, e35⟩
def own_f6 (r_ : Int64) (b_ : Int64) (c_ : Int64) : Int32 := (if r_ < (0 : Int64) then (0 : Int32) else (if r_ < c_ then (if (b_ * c_) < (r_ * (4294967296 : Int64)) then (0 : Int32) else (if (b_ * c_) < ((r_ + (1 : Int64)) * (4294967296 : Int64)) then (1 : Int32) else (0 : Int32))) else (0 : Int32)))
theorem own_d6_0 : decode method_2_code 0 = .ok (.lload_n 0, 1) := by decide +kernel
theorem own_d6_1 : decode method_2_code 1 = .ok (.lconst 0, 1) := by decide +kernel
theorem own_d6_2 : decode method_2_code 2 = .ok (.lcmp, 1) := by decide +kernel
theorem own_d6_3 : decode method_2_code 3 = .ok (.ifCond .lt 10, 3) := by decide +kernel
theorem own_d6_6 : decode method_2_code 6 = .ok (.lload_n 0, 1) := by decide +kernel
theorem own_d6_7 : decode method_2_code 7 = .ok (.lload 4, 2) := by decide +kernel
theorem own_d6_9 : decode method_2_code 9 = .ok (.lcmp, 1) := by decide +kernel
theorem own_d6_10 : decode method_2_code 10 = .ok (.ifCond .lt 5, 3) := by decide +kernel
theorem own_d6_13 : decode method_2_code 13 = .ok (.iconst 0, 1) := by decide +kernel
theorem own_d6_14 : decode method_2_code 14 = .ok (.ireturn, 1) := by decide +kernel
theorem own_d6_15 : decode method_2_code 15 = .ok (.lload_n 2, 1) := by decide +kernel
theorem own_d6_16 : decode method_2_code 16 = .ok (.lload 4, 2) := by decide +kernel
theorem own_d6_18 : decode method_2_code 18 = .ok (.lmul, 1) := by decide +kernel
theorem own_d6_19 : decode method_2_code 19 = .ok (.lstore 6, 2) := by decide +kernel
theorem own_d6_21 : decode method_2_code 21 = .ok (.lload_n 0, 1) := by decide +kernel
theorem own_d6_22 : decode method_2_code 22 = .ok (.ldc2_w 7, 3) := by decide +kernel
theorem own_d6_25 : decode method_2_code 25 = .ok (.lmul, 1) := by decide +kernel
theorem own_d6_26 : decode method_2_code 26 = .ok (.lstore 8, 2) := by decide +kernel
theorem own_d6_28 : decode method_2_code 28 = .ok (.lload_n 0, 1) := by decide +kernel
theorem own_d6_29 : decode method_2_code 29 = .ok (.lconst 1, 1) := by decide +kernel
theorem own_d6_30 : decode method_2_code 30 = .ok (.ladd, 1) := by decide +kernel
theorem own_d6_31 : decode method_2_code 31 = .ok (.ldc2_w 7, 3) := by decide +kernel
theorem own_d6_34 : decode method_2_code 34 = .ok (.lmul, 1) := by decide +kernel
theorem own_d6_35 : decode method_2_code 35 = .ok (.lstore 10, 2) := by decide +kernel
theorem own_d6_37 : decode method_2_code 37 = .ok (.lload 8, 2) := by decide +kernel
theorem own_d6_39 : decode method_2_code 39 = .ok (.lload 6, 2) := by decide +kernel
theorem own_d6_41 : decode method_2_code 41 = .ok (.lcmp, 1) := by decide +kernel
theorem own_d6_42 : decode method_2_code 42 = .ok (.ifCond .gt 15, 3) := by decide +kernel
theorem own_d6_45 : decode method_2_code 45 = .ok (.lload 6, 2) := by decide +kernel
theorem own_d6_47 : decode method_2_code 47 = .ok (.lload 10, 2) := by decide +kernel
theorem own_d6_49 : decode method_2_code 49 = .ok (.lcmp, 1) := by decide +kernel
theorem own_d6_50 : decode method_2_code 50 = .ok (.ifCond .ge 7, 3) := by decide +kernel
theorem own_d6_53 : decode method_2_code 53 = .ok (.iconst 1, 1) := by decide +kernel
theorem own_d6_54 : decode method_2_code 54 = .ok (.goto 4, 3) := by decide +kernel
theorem own_d6_57 : decode method_2_code 57 = .ok (.iconst 0, 1) := by decide +kernel
theorem own_d6_58 : decode method_2_code 58 = .ok (.ireturn, 1) := by decide +kernel
theorem own_pn_FilterCellPinLaw : plainName "com/example/tallymark/tallymark/FilterCellPinLaw" = true := by first | (simp [plainName, overriddenIn]; done) | decide +kernel
theorem own_ef6 (m : MethodId) (r_ : Int64) (b_ : Int64) (c_ : Int64) : entryFrame m #[(.long r_), (.long b_), (.long c_)] 12 = mkF m 0 #[.val (.long r_), .second, .val (.long b_), .second, .val (.long c_), .second, .unset, .unset, .unset, .unset, .unset, .unset] [] := by first | (simp [entryFrame, mkF, argsToLocals, Value.category]; done) | rfl
def own_q_own_r6 (Z : State) (r_ : Int64) (b_ : Int64) (c_ : Int64) (h0 : Heap) (n0 : Nat) (v : Option Value) (h : Heap) (L : List Loc) : Prop := v = some (.int (own_f6 r_ b_ c_)) ∧ Fr n0 L ∧ h = h0
set_option maxRecDepth 65536 in
set_option maxHeartbeats 40000000 in
theorem own_r6 (l : Launch) (Z : State) (a0 : Array Value) (hw : ∀ d ∈ tables_1, d.before a0 Z = true) (ws : List Jvm.Cond) (r_ : Int64) (b_ : Int64) (c_ : Int64) (h0 : Heap) (n0 : Nat) (Z0 : n0 ≤ h0.size) :
    MetFree l (⟨"com/example/tallymark/tallymark/FilterCellPinLaw", "isScaledCell", "(JJJ)Z"⟩ : MethodName) (head1 (Jvm.Cond.code (⟨"com/example/tallymark/tallymark/FilterCellPinLaw", "isScaledCell", "(JJJ)Z"⟩ : MethodName) method_2_code 12 (some .boolean) :: ws) ({ frames := 0, cells := 0, slots := 0, locals := 0 } : Room)) (fun a U => a = #[(.long r_), (.long b_), (.long c_)] ∧ Z.Warmed39 U.vm ∧ U.heap = h0) (fun _ _ _ _ _ => True) (fun _ U o U' => ∃ v L, o = .returned v ∧ own_q_own_r6 Z r_ b_ c_ h0 n0 v U'.heap L ∧ FrameEnd U o U' L ({ frames := 0, cells := 0, slots := 0, locals := 0 } : Room).cells ({ frames := 0, cells := 0, slots := 0, locals := 0 } : Room).slots) := by
  refine MetFree.of_bodySF (plainFor_of_name own_pn_FilterCellPinLaw) hisR ?_
  intro p e s m args below meth c T0 Bd hml0 hP hK
  obtain ⟨rfl, hZ, hh⟩ := hP
  have hx := Bd.exec
  have hby := Bd.bytes
  have hml : c.maxLocals = 12 := hml0
  have hown : s.vm.findClass "com/example/tallymark/tallymark/FilterCellPinLaw" = some m.cls := findClass_of_methodNamed Bd.named
  have hnm := (name_of_methodNamed Bd.named Bd.method).1
  have hret : meth.sig.returnType = (some .boolean) := Bd.returns
  have hlk : meth.locks = false := BodyLoose.notSynchronized Bd
  have X0 : Stand p l e ({ frames := 0, cells := 0, slots := 0, locals := 0 } : Room) s m #[(.long r_), (.long b_), (.long c_)] below meth c T0 [] 0 0 := Stand.of_body Bd
  have e0 : T0.heap = h0 := by rw [← hh, Bd.state]; rfl
  have N0 := Fr.nil n0
  refine own_start (own_ef6 m r_ b_ c_) (Q := fun (v : Option Value) (h : Heap) (L : List Loc) => v = some (.int (own_f6 r_ b_ c_)) ∧ Fr n0 L ∧ h = h0) (k := 0) (j := 0) ?_
  show own_Go p e below T0 (mkF m 0 #[.val (.long r_), .second, .val (.long b_), .second, .val (.long c_), .second, .unset, .unset, .unset, .unset, .unset, .unset] []) _
  refine own_s_lloadN X0.here hx (hb hby own_d6_0) rfl ?_
  refine own_s_lconst X0.here hx (0 : Int64) (hb hby own_d6_1) rfl ?_
  refine own_s_lcmp X0.here hx (hb hby own_d6_2) ?_
  by_cases hc3 : r_ < (0 : Int64)
  ·
    show own_Go p e below T0 (mkF m 3 #[.val (.long r_), .second, .val (.long b_), .second, .val (.long c_), .second, .unset, .unset, .unset, .unset, .unset, .unset] [(.int (Jvm.Free.XT.cmpL r_ (0 : Int64)))]) _
    refine own_s_ifYes X0.here hx 13 (hb hby own_d6_3) (Jvm.Free.XT.ll_lt_t hc3) (by decide) (by decide) ?_
    refine own_s_iconst X0.here hx (0 : Int32) (hb hby own_d6_13) rfl ?_
    refine own_retZ X0 hx hret hlk (hb hby own_d6_14) rfl (by decide) (by decide) ?_
    exact ⟨by unfold own_f6; rw [if_pos hc3], N0, e0⟩
  ·
    refine own_s_ifNo X0.here hx (hb hby own_d6_3) (Jvm.Free.XT.ll_lt_f hc3) ?_
    refine own_s_lloadN X0.here hx (hb hby own_d6_6) rfl ?_
    refine own_s_lload X0.here hx (hb hby own_d6_7) rfl ?_
    refine own_s_lcmp X0.here hx (hb hby own_d6_9) ?_
    by_cases hc10 : r_ < c_
    ·
      show own_Go p e below T0 (mkF m 10 #[.val (.long r_), .second, .val (.long b_), .second, .val (.long c_), .second, .unset, .unset, .unset, .unset, .unset, .unset] [(.int (Jvm.Free.XT.cmpL r_ c_))]) _
      refine own_s_ifYes X0.here hx 15 (hb hby own_d6_10) (Jvm.Free.XT.ll_lt_t hc10) (by decide) (by decide) ?_
      refine own_s_lloadN X0.here hx (hb hby own_d6_15) rfl ?_
      refine own_s_lload X0.here hx (hb hby own_d6_16) rfl ?_
      refine own_s_lmul X0.here hx (hb hby own_d6_18) ?_
      refine own_s_lstore X0.here hx #[.val (.long r_), .second, .val (.long b_), .second, .val (.long c_), .second, .val (.long (b_ * c_)), .second, .unset, .unset, .unset, .unset] (hb hby own_d6_19) rfl ?_
      refine own_s_lloadN X0.here hx (hb hby own_d6_21) rfl ?_
      refine own_by (fun tq_ kq_ => X0.ldc2Long hx hown (mvT hZ (hw _ (List.mem_of_getElem? (i := 42) rfl))) (g := (mkF m 22 #[.val (.long r_), .second, .val (.long b_), .second, .val (.long c_), .second, .val (.long (b_ * c_)), .second, .unset, .unset, .unset, .unset] [(.long r_)])) rfl (hb hby own_d6_22) tq_ kq_) ?_
      show own_Go p e below T0 (mkF m 25 #[.val (.long r_), .second, .val (.long b_), .second, .val (.long c_), .second, .val (.long (b_ * c_)), .second, .unset, .unset, .unset, .unset] [(.long (4294967296 : Int64)), (.long r_)]) _
      refine own_s_lmul X0.here hx (hb hby own_d6_25) ?_
      refine own_s_lstore X0.here hx #[.val (.long r_), .second, .val (.long b_), .second, .val (.long c_), .second, .val (.long (b_ * c_)), .second, .val (.long (r_ * (4294967296 : Int64))), .second, .unset, .unset] (hb hby own_d6_26) rfl ?_
      refine own_s_lloadN X0.here hx (hb hby own_d6_28) rfl ?_
      refine own_s_lconst X0.here hx (1 : Int64) (hb hby own_d6_29) rfl ?_
      refine own_s_ladd X0.here hx (hb hby own_d6_30) ?_
      refine own_by (fun tq_ kq_ => X0.ldc2Long hx hown (mvT hZ (hw _ (List.mem_of_getElem? (i := 42) rfl))) (g := (mkF m 31 #[.val (.long r_), .second, .val (.long b_), .second, .val (.long c_), .second, .val (.long (b_ * c_)), .second, .val (.long (r_ * (4294967296 : Int64))), .second, .unset, .unset] [(.long (r_ + (1 : Int64)))])) rfl (hb hby own_d6_31) tq_ kq_) ?_
      show own_Go p e below T0 (mkF m 34 #[.val (.long r_), .second, .val (.long b_), .second, .val (.long c_), .second, .val (.long (b_ * c_)), .second, .val (.long (r_ * (4294967296 : Int64))), .second, .unset, .unset] [(.long (4294967296 : Int64)), (.long (r_ + (1 : Int64)))]) _
      refine own_s_lmul X0.here hx (hb hby own_d6_34) ?_
      refine own_s_lstore X0.here hx #[.val (.long r_), .second, .val (.long b_), .second, .val (.long c_), .second, .val (.long (b_ * c_)), .second, .val (.long (r_ * (4294967296 : Int64))), .second, .val (.long ((r_ + (1 : Int64)) * (4294967296 : Int64))), .second] (hb hby own_d6_35) rfl ?_
      refine own_s_lload X0.here hx (hb hby own_d6_37) rfl ?_
      refine own_s_lload X0.here hx (hb hby own_d6_39) rfl ?_
      refine own_s_lcmp X0.here hx (hb hby own_d6_41) ?_
      by_cases hc42 : (b_ * c_) < (r_ * (4294967296 : Int64))
      ·
        show own_Go p e below T0 (mkF m 42 #[.val (.long r_), .second, .val (.long b_), .second, .val (.long c_), .second, .val (.long (b_ * c_)), .second, .val (.long (r_ * (4294967296 : Int64))), .second, .val (.long ((r_ + (1 : Int64)) * (4294967296 : Int64))), .second] [(.int (Jvm.Free.XT.cmpL (r_ * (4294967296 : Int64)) (b_ * c_)))]) _
        refine own_s_ifYes X0.here hx 57 (hb hby own_d6_42) (Jvm.Free.XT.ll_gt_t hc42) (by decide) (by decide) ?_
        refine own_s_iconst X0.here hx (0 : Int32) (hb hby own_d6_57) rfl ?_
        refine own_retZ X0 hx hret hlk (hb hby own_d6_58) rfl (by decide) (by decide) ?_
        exact ⟨by unfold own_f6; rw [if_neg hc3, if_pos hc10, if_pos hc42], N0, e0⟩
      ·
        refine own_s_ifNo X0.here hx (hb hby own_d6_42) (Jvm.Free.XT.ll_gt_f hc42) ?_
        refine own_s_lload X0.here hx (hb hby own_d6_45) rfl ?_
        refine own_s_lload X0.here hx (hb hby own_d6_47) rfl ?_
        refine own_s_lcmp X0.here hx (hb hby own_d6_49) ?_
        by_cases hc50 : (b_ * c_) < ((r_ + (1 : Int64)) * (4294967296 : Int64))
        ·
          refine own_s_ifNo X0.here hx (hb hby own_d6_50) (Jvm.Free.XT.ll_ge_f hc50) ?_
          refine own_s_iconst X0.here hx (1 : Int32) (hb hby own_d6_53) rfl ?_
          show own_Go p e below T0 (mkF m 54 #[.val (.long r_), .second, .val (.long b_), .second, .val (.long c_), .second, .val (.long (b_ * c_)), .second, .val (.long (r_ * (4294967296 : Int64))), .second, .val (.long ((r_ + (1 : Int64)) * (4294967296 : Int64))), .second] [(.int (1 : Int32))]) _
          refine own_s_goto X0.here hx 58 (hb hby own_d6_54) (by decide) (by decide) ?_
          refine own_retZ X0 hx hret hlk (hb hby own_d6_58) rfl (by decide) (by decide) ?_
          exact ⟨by unfold own_f6; rw [if_neg hc3, if_pos hc10, if_neg hc42, if_pos hc50], N0, e0⟩
        ·
          show own_Go p e below T0 (mkF m 50 #[.val (.long r_), .second, .val (.long b_), .second, .val (.long c_), .second, .val (.long (b_ * c_)), .second, .val (.long (r_ * (4294967296 : Int64))), .second, .val (.long ((r_ + (1 : Int64)) * (4294967296 : Int64))), .second] [(.int (Jvm.Free.XT.cmpL (b_ * c_) ((r_ + (1 : Int64)) * (4294967296 : Int64))))]) _
          refine own_s_ifYes X0.here hx 57 (hb hby own_d6_50) (Jvm.Free.XT.ll_ge_t hc50) (by decide) (by decide) ?_
          refine own_s_iconst X0.here hx (0 : Int32) (hb hby own_d6_57) rfl ?_
          refine own_retZ X0 hx hret hlk (hb hby own_d6_58) rfl (by decide) (by decide) ?_
          exact ⟨by unfold own_f6; rw [if_neg hc3, if_pos hc10, if_neg hc42, if_neg hc50], N0, e0⟩
    ·
      refine own_s_ifNo X0.here hx (hb hby own_d6_10) (Jvm.Free.XT.ll_lt_f hc10) ?_
      refine own_s_iconst X0.here hx (0 : Int32) (hb hby own_d6_13) rfl ?_
      refine own_retZ X0 hx hret hlk (hb hby own_d6_14) rfl (by decide) (by decide) ?_
      exact ⟨by unfold own_f6; rw [if_neg hc3, if_neg hc10], N0, e0⟩
theorem own_ush (x : Int64) : ((x.toUInt64 >>> ((32 : Int32) &&& 0x3f).toInt64.toUInt64).toInt64).toInt = (x.toBitVec.toNat / 2 ^ 32 : Nat) := by
  have e : ((x.toUInt64 >>> ((32 : Int32) &&& 0x3f).toInt64.toUInt64).toInt64).toBitVec.toNat = x.toBitVec.toNat / 2 ^ 32 := by
    simp only [UInt64.toBitVec_toInt64, UInt64.toBitVec_shiftRight, Int64.toBitVec_toUInt64]
    rw [show ((32 : Int32) &&& 0x3f).toInt64.toBitVec = 32#64 from by decide]
    simp [BitVec.toNat_ushiftRight, Nat.shiftRight_eq_div_pow]
  have hb := x.toBitVec.isLt
  have h2 : ((x.toUInt64 >>> ((32 : Int32) &&& 0x3f).toInt64.toUInt64).toInt64).toInt = ((x.toUInt64 >>> ((32 : Int32) &&& 0x3f).toInt64.toUInt64).toInt64).toBitVec.toInt := rfl
  rw [h2, BitVec.toInt_eq_toNat_cond, e, if_pos (by omega)]
theorem own_toNat (x : Int64) : x.toInt = (if 2 * x.toBitVec.toNat < 2 ^ 64 then (x.toBitVec.toNat : Int) else (x.toBitVec.toNat : Int) - 2 ^ 64) := by
  have h2 : x.toInt = x.toBitVec.toInt := rfl
  rw [h2, BitVec.toInt_eq_toNat_cond]
  rfl
theorem own_hh (x : Int64) : ((x >>> ((32 : Int32) &&& 0x3f).toInt64) &&& (4294967295 : Int64)) = ((x.toUInt64 >>> ((32 : Int32) &&& 0x3f).toInt64.toUInt64).toInt64) := by
  apply Int64.toInt_inj.mp
  have e1 : (x >>> ((32 : Int32) &&& 0x3f).toInt64).toInt = x.toInt / 2 ^ 32 := Jvm.Kit.i64_shr x _ (by decide)
  have e2 : ((x >>> ((32 : Int32) &&& 0x3f).toInt64) &&& (4294967295 : Int64)).toInt = (x >>> ((32 : Int32) &&& 0x3f).toInt64).toInt % 2 ^ 32 := Jvm.Kit.i64_mask _ _ (k := 32) (by decide) (by decide)
  have hb := x.toBitVec.isLt
  have e3 := own_toNat x
  rw [own_ush, e2, e1]
  split at e3 <;> omega
theorem own_hb (x : Int64) : 0 ≤ ((x.toUInt64 >>> ((32 : Int32) &&& 0x3f).toInt64.toUInt64).toInt64).toInt ∧ ((x.toUInt64 >>> ((32 : Int32) &&& 0x3f).toInt64.toUInt64).toInt64).toInt < 4294967296 := by
  have hb := x.toBitVec.isLt
  rw [own_ush]
  omega
theorem own_lb (x : Int64) : 0 ≤ (x &&& (4294967295 : Int64)).toInt ∧ (x &&& (4294967295 : Int64)).toInt < 4294967296 := by
  have e2 : (x &&& (4294967295 : Int64)).toInt = x.toInt % 2 ^ 32 := Jvm.Kit.i64_mask _ _ (k := 32) (by decide) (by decide)
  omega
theorem own_sc (b : Int64) (cc : Int32) (hb : 0 ≤ b.toInt ∧ b.toInt < 4294967296) (hc : 1 ≤ cc.toInt) : own_f6 ((own_ce b cc).toInt64) b (cc.toInt64) = (1 : Int32) := by
  have hcb := cc.toInt_lt
  have e0 : cc.toInt64.toInt = cc.toInt := Jvm.Kit.i64_of_i32 cc
  have m1 : b.toInt * cc.toInt ≤ 4294967295 * cc.toInt := Int.mul_le_mul_of_nonneg_right (by omega) (by omega)
  have m2 : 0 ≤ b.toInt * cc.toInt := Int.mul_nonneg hb.1 (by omega)
  have e1 : (b * cc.toInt64).toInt = b.toInt * cc.toInt := by rw [Jvm.Kit.i64_mul (by rw [e0]; omega) (by rw [e0]; omega), e0]
  have e2 : ((b * cc.toInt64).toBitVec.toNat : Int) = b.toInt * cc.toInt := by
    have q := own_toNat (b * cc.toInt64)
    have hq := (b * cc.toInt64).toBitVec.isLt
    rw [e1] at q
    split at q <;> omega
  have e3 : (((b * cc.toInt64).toUInt64 >>> ((32 : Int32) &&& 0x3f).toInt64.toUInt64).toInt64).toInt = (b.toInt * cc.toInt) / 4294967296 := by
    rw [own_ush, Int.natCast_ediv, e2]
    rfl
  generalize hP : b.toInt * cc.toInt = P at *
  have e4 : (own_ce b cc).toInt64.toInt = P / 4294967296 := by
    unfold own_ce
    rw [Jvm.Kit.i64_of_i32, Jvm.Kit.i32_of_i64 (by rw [e3]; omega) (by rw [e3]; omega), e3]
  generalize (own_ce b cc).toInt64 = r at *
  have c1 : (4294967296 : Int64).toInt = 4294967296 := by decide
  have c2 : (1 : Int64).toInt = 1 := by decide
  have c3 : (0 : Int64).toInt = 0 := by decide
  have e5 : (r * (4294967296 : Int64)).toInt = r.toInt * 4294967296 := by rw [Jvm.Kit.i64_mul (by rw [c1]; omega) (by rw [c1]; omega), c1]
  have e6 : (r + (1 : Int64)).toInt = r.toInt + 1 := by rw [Jvm.Kit.i64_add (by rw [c2]; omega) (by rw [c2]; omega), c2]
  have e7 : ((r + (1 : Int64)) * (4294967296 : Int64)).toInt = (r.toInt + 1) * 4294967296 := by rw [Jvm.Kit.i64_mul (by rw [e6, c1]; omega) (by rw [e6, c1]; omega), e6, c1]
  unfold own_f6
  simp only [Int64.lt_iff_toInt_lt, e0, e1, e5, e7, c3]
  repeat' split
  all_goals first | rfl | (exfalso; omega)
theorem own_pd_0 : parseMethodDescriptor "(IZJ)V" = some ⟨[.int, .boolean, .long], none⟩ := by decide +kernel
theorem own_pd_4 : parseMethodDescriptor "(JI)I" = some ⟨[.long, .int], some .int⟩ := by decide +kernel
theorem own_pd_5 : parseMethodDescriptor "(JJJ)Z" = some ⟨[.long, .long, .long], some .boolean⟩ := by decide +kernel
set_option maxRecDepth 65536 in
set_option maxHeartbeats 40000000 in
theorem own_p14 {p : Program} {l : Launch} {e : Env} {s : State} {m : MethodId} {args : Array Value} {below : List Frame} {meth : Method} {c : Code} {Z : State} {a0 : Array Value} {n0 : Nat} (hx : p.tables.exec = Jvm.exec) (hZ : Z.Warmed39 s.vm) (hw : ∀ d ∈ tables_1, d.before a0 Z = true) (hby : c.code = code) (hml : c.maxLocals = 17) (hown : s.vm.findClass "com/example/tallymark/tallymark/FilterCellPinLaw" = some m.cls) (hnm : meth.name = "law") (hret : meth.sig.returnType = (some .boolean)) (hlk : meth.locks = false) (c0 f0 cp : Int32) (h_ sd : Int64) {T0 : State} {locs : List Loc} {h0 : Heap} (X0 : Stand p l e room_1 s m args below meth c T0 locs 0 0) (e0 : T0.heap = h0) (N0 : Fr n0 locs) (Z0 : n0 ≤ h0.size) (hcp : 1 ≤ cp.toInt) :
    own_Go p e below T0 (mkF m 14 #[.val (.int c0), .val (.int f0), .val (.long h_), .second, .val (.long sd), .second, .val (.int cp), .unset, .unset, .unset, .unset, .unset, .unset, .unset, .unset, .unset, .unset] []) (own_Fin s (fun (v : Option Value) (h : Heap) (L : List Loc) => v = some (.int 1) ∧ Fr n0 L) 16 128) := by
  show own_Go p e below T0 (mkF m 14 #[.val (.int c0), .val (.int f0), .val (.long h_), .second, .val (.long sd), .second, .val (.int cp), .unset, .unset, .unset, .unset, .unset, .unset, .unset, .unset, .unset, .unset] []) _
  refine own_s_iloadN X0.here hx (hb hby at_14) rfl ?_
  refine own_s_iconst X0.here hx (1 : Int32) (hb hby at_15) rfl ?_
  refine own_s_iand X0.here hx (hb hby at_16) ?_
  by_cases hc17 : (f0 &&& (1 : Int32)) = 0
  ·
    show own_Go p e below T0 (mkF m 17 #[.val (.int c0), .val (.int f0), .val (.long h_), .second, .val (.long sd), .second, .val (.int cp), .unset, .unset, .unset, .unset, .unset, .unset, .unset, .unset, .unset, .unset] [(.int (f0 &&& (1 : Int32)))]) _
    refine own_s_ifYes X0.here hx 24 (hb hby at_17) (Jvm.Free.XT.i0_eq_t hc17) (by decide) (by decide) ?_
    refine own_s_iconst X0.here hx (0 : Int32) (hb hby at_24) rfl ?_
    refine own_s_istore X0.here hx #[.val (.int c0), .val (.int f0), .val (.long h_), .second, .val (.long sd), .second, .val (.int cp), .val (.int (0 : Int32)), .unset, .unset, .unset, .unset, .unset, .unset, .unset, .unset, .unset] (hb hby at_25) rfl ?_
    obtain ⟨T36, h36, X36, e36, E36, A36, D36, -, st36⟩ := newO X0 hx hZ hown (hw _ (List.mem_of_getElem? (i := 1) rfl)) (hw _ (List.mem_of_getElem? (i := 2) rfl)) (hw _ (List.mem_of_getElem? (i := 3) rfl)) e0 (g := (mkF m 27 #[.val (.int c0), .val (.int f0), .val (.long h_), .second, .val (.long sd), .second, .val (.int cp), .val (.int (0 : Int32)), .unset, .unset, .unset, .unset, .unset, .unset, .unset, .unset, .unset] [])) rfl (hb hby at_27) (by decide) (by decide)
    obtain ⟨b36, g36⟩ : ∃ z, z = h0.size := ⟨_, rfl⟩
    rw [← g36] at A36 D36 st36
    have ge_b36 : n0 ≤ b36 := Nat.le_trans Z0 (Nat.le_of_eq g36.symm)
    have SZ36 : n0 ≤ h36.size := Nat.le_trans Z0 E36.1
    have f37 : Fld Z h36 b36 "com/example/tallymark/tallymark/Filter" "cellCount" "I" (.int (0 : Int32)) := D36 (Or.inr (hw _ (List.mem_of_getElem? (i := 11) rfl))) (ty := .int) (by decide)
    have f38 : Fld Z h36 b36 "com/example/tallymark/tallymark/Filter" "twoCountersPerItem" "Z" (.int (0 : Int32)) := D36 (Or.inr (hw _ (List.mem_of_getElem? (i := 13) rfl))) (ty := .boolean) (by decide)
    have f39 : Fld Z h36 b36 "com/example/tallymark/tallymark/Filter" "hash" "Lcom/example/tallymark/tallymark/SeededHash;" .null := D36 (Or.inr (hw _ (List.mem_of_getElem? (i := 30) rfl))) (ty := (.object "com/example/tallymark/tallymark/SeededHash")) (by decide)
    refine own_by st36 ?_
    show own_Go p e below T36 (mkF m 30 #[.val (.int c0), .val (.int f0), .val (.long h_), .second, .val (.long sd), .second, .val (.int cp), .val (.int (0 : Int32)), .unset, .unset, .unset, .unset, .unset, .unset, .unset, .unset, .unset] [(.ref b36)]) _
    refine own_s_dup X36.here hx (hb hby at_30) rfl ?_
    refine own_s_iload X36.here hx (hb hby at_31) rfl ?_
    refine own_s_iload X36.here hx (hb hby at_33) rfl ?_
    refine own_s_lload X36.here hx (hb hby at_35) rfl ?_
    obtain ⟨_, _, ⟨T40, L40, k40, n40⟩, -, X40, ⟨Lc40, hQ40, l40, y40, z40⟩, st40⟩ := X36.specialBack hx (y := (⟨"com/example/tallymark/tallymark/Filter", "<init>", "(IZJ)V"⟩ : MethodName)) rfl hown (mvT hZ (hw _ (List.mem_of_getElem? (i := 4) rfl))) (mvT hZ (hw _ (List.mem_of_getElem? (i := 5) rfl))) (mvT hZ (hw _ (List.mem_of_getElem? (i := 6) rfl))) (by decide) (backOf (W := 1) (own_r1 l Z a0 hw [] b36 cp (0 : Int32) sd  h36 n0 SZ36 (by decide) A36 f37 f38 f39 ge_b36) hZ (hw _ (List.mem_of_getElem? (i := 6) rfl)) (hw _ (List.mem_of_getElem? (i := 3) rfl)) (by decide) (by decide)) (g := (mkF m 37 #[.val (.int c0), .val (.int f0), .val (.long h_), .second, .val (.long sd), .second, .val (.int cp), .val (.int (0 : Int32)), .unset, .unset, .unset, .unset, .unset, .unset, .unset, .unset, .unset] [(.long sd), (.int (0 : Int32)), (.int cp), (.ref b36), (.ref b36)])) rfl (by rw [hml]; rfl) (Steps.refl _) (a := b36) (argsL := [(.int cp), (.int (0 : Int32)), (.long sd)]) (rest := [(.ref b36)]) (lenOf own_pd_0 rfl) rfl (by show 2 * 0 + _ ≤ _; exact Nat.le_of_eq rfl) (hb hby at_37) (fun _ _ => ⟨rfl, e36, (by decide : 1 + 1 ≤ _), (by decide : 5 + 1 ≤ _)⟩)
    dsimp only [Pt.U, Pt.locs, Pt.cells, Pt.slots] at X40 l40 y40 z40 st40 hQ40
    subst l40 y40 z40
    obtain ⟨rfl, N40q, K40, fc40, ft40⟩ := hQ40
    have N40 := Fr.app N0 N40q
    have f41 := A36.keep K40
    have SZ40 : n0 ≤ T40.heap.size := Nat.le_trans SZ36 K40.1
    refine own_by (fun t k => st40.trans k) ?_
    show own_Go p e below T40 (mkF m 40 #[.val (.int c0), .val (.int f0), .val (.long h_), .second, .val (.long sd), .second, .val (.int cp), .val (.int (0 : Int32)), .unset, .unset, .unset, .unset, .unset, .unset, .unset, .unset, .unset] [(.ref b36)]) _
    refine own_s_astore X40.here hx #[.val (.int c0), .val (.int f0), .val (.long h_), .second, .val (.long sd), .second, .val (.int cp), .val (.int (0 : Int32)), .val (.ref b36), .unset, .unset, .unset, .unset, .unset, .unset, .unset, .unset] (hb hby at_40) rfl rfl ?_
    refine own_s_aload X40.here hx (hb hby at_42) rfl rfl ?_
    refine own_s_lloadN X40.here hx (hb hby at_44) rfl ?_
    refine own_s_iconst X40.here hx (0 : Int32) (hb hby at_45) rfl ?_
    obtain ⟨cq42, kq42, q42a, q42b, q42c⟩ := isOf hZ rfl f41
    obtain ⟨_, _, ⟨T42, L42, k42, n42⟩, -, X42, ⟨Lc42, hQ42, l42, y42, z42⟩, st42⟩ := X40.virtualBack hx (y := (⟨"com/example/tallymark/tallymark/Filter", "cell", "(JI)I"⟩ : MethodName)) (z := (⟨"com/example/tallymark/tallymark/Filter", "cell", "(JI)I"⟩ : MethodName)) hown (mvT hZ (hw _ (List.mem_of_getElem? (i := 31) rfl))) (mvT hZ (hw _ (List.mem_of_getElem? (i := 32) rfl))) (notFace_of_selects (args := #[]) (mvT hZ (hw _ (List.mem_of_getElem? (i := 34) rfl)))) (mvT hZ (hw _ (List.mem_of_getElem? (i := 34) rfl))) (mvT hZ (hw _ (List.mem_of_getElem? (i := 33) rfl))) (by decide) (backOf (W := 0) (own_c0 l Z a0 hw [] b36 h_ (0 : Int32) cp (0 : Int32) T40.heap n0 SZ40 rfl fc40 ft40) hZ (hw _ (List.mem_of_getElem? (i := 35) rfl)) (hw _ (List.mem_of_getElem? (i := 3) rfl)) (by decide) (by decide)) q42a q42c (g := (mkF m 46 #[.val (.int c0), .val (.int f0), .val (.long h_), .second, .val (.long sd), .second, .val (.int cp), .val (.int (0 : Int32)), .val (.ref b36), .unset, .unset, .unset, .unset, .unset, .unset, .unset, .unset] [(.int (0 : Int32)), (.long h_), (.ref b36)])) rfl (by rw [hml]; rfl) (Steps.refl _) (argsL := [(.long h_), (.int (0 : Int32))]) (rest := []) (lenOf own_pd_4 rfl) rfl (by show 2 * 0 + _ ≤ _; exact Nat.le_of_eq rfl) (hb hby at_46) (fun _ _ => ⟨rfl, rfl, (by decide : 2 + 0 ≤ _), (by decide : 6 + 0 ≤ _)⟩)
    dsimp only [Pt.U, Pt.locs, Pt.cells, Pt.slots] at X42 l42 y42 z42 st42 hQ42
    subst l42 y42 z42
    obtain ⟨rfl, N42q, e42⟩ := hQ42
    have N42 := Fr.app N40 N42q
    refine own_by (fun t k => st42.trans k) ?_
    show own_Go p e below T42 (mkF m 49 #[.val (.int c0), .val (.int f0), .val (.long h_), .second, .val (.long sd), .second, .val (.int cp), .val (.int (0 : Int32)), .val (.ref b36), .unset, .unset, .unset, .unset, .unset, .unset, .unset, .unset] [(.int (own_ce ((h_.toUInt64 >>> ((32 : Int32) &&& 0x3f).toInt64.toUInt64).toInt64) cp))]) _
    refine own_s_istore X42.here hx #[.val (.int c0), .val (.int f0), .val (.long h_), .second, .val (.long sd), .second, .val (.int cp), .val (.int (0 : Int32)), .val (.ref b36), .val (.int (own_ce ((h_.toUInt64 >>> ((32 : Int32) &&& 0x3f).toInt64.toUInt64).toInt64) cp)), .unset, .unset, .unset, .unset, .unset, .unset, .unset] (hb hby at_49) rfl ?_
    refine own_s_aload X42.here hx (hb hby at_51) rfl rfl ?_
    refine own_s_lloadN X42.here hx (hb hby at_53) rfl ?_
    refine own_s_iconst X42.here hx (1 : Int32) (hb hby at_54) rfl ?_
    obtain ⟨cq43, kq43, q43a, q43b, q43c⟩ := isOf hZ e42 f41
    obtain ⟨_, _, ⟨T43, L43, k43, n43⟩, -, X43, ⟨Lc43, hQ43, l43, y43, z43⟩, st43⟩ := X42.virtualBack hx (y := (⟨"com/example/tallymark/tallymark/Filter", "cell", "(JI)I"⟩ : MethodName)) (z := (⟨"com/example/tallymark/tallymark/Filter", "cell", "(JI)I"⟩ : MethodName)) hown (mvT hZ (hw _ (List.mem_of_getElem? (i := 31) rfl))) (mvT hZ (hw _ (List.mem_of_getElem? (i := 32) rfl))) (notFace_of_selects (args := #[]) (mvT hZ (hw _ (List.mem_of_getElem? (i := 34) rfl)))) (mvT hZ (hw _ (List.mem_of_getElem? (i := 34) rfl))) (mvT hZ (hw _ (List.mem_of_getElem? (i := 33) rfl))) (by decide) (backOf (W := 0) (own_c1n l Z a0 hw [] b36 h_ (1 : Int32) cp (0 : Int32) T40.heap n0 SZ40 rfl rfl fc40 ft40) hZ (hw _ (List.mem_of_getElem? (i := 35) rfl)) (hw _ (List.mem_of_getElem? (i := 3) rfl)) (by decide) (by decide)) q43a q43c (g := (mkF m 55 #[.val (.int c0), .val (.int f0), .val (.long h_), .second, .val (.long sd), .second, .val (.int cp), .val (.int (0 : Int32)), .val (.ref b36), .val (.int (own_ce ((h_.toUInt64 >>> ((32 : Int32) &&& 0x3f).toInt64.toUInt64).toInt64) cp)), .unset, .unset, .unset, .unset, .unset, .unset, .unset] [(.int (1 : Int32)), (.long h_), (.ref b36)])) rfl (by rw [hml]; rfl) (Steps.refl _) (argsL := [(.long h_), (.int (1 : Int32))]) (rest := []) (lenOf own_pd_4 rfl) rfl (by show 2 * 0 + _ ≤ _; exact Nat.le_of_eq rfl) (hb hby at_55) (fun _ _ => ⟨rfl, e42, (by decide : 2 + 0 ≤ _), (by decide : 6 + 0 ≤ _)⟩)
    dsimp only [Pt.U, Pt.locs, Pt.cells, Pt.slots] at X43 l43 y43 z43 st43 hQ43
    subst l43 y43 z43
    obtain ⟨rfl, N43q, e43⟩ := hQ43
    have N43 := Fr.app N42 N43q
    refine own_by (fun t k => st43.trans k) ?_
    show own_Go p e below T43 (mkF m 58 #[.val (.int c0), .val (.int f0), .val (.long h_), .second, .val (.long sd), .second, .val (.int cp), .val (.int (0 : Int32)), .val (.ref b36), .val (.int (own_ce ((h_.toUInt64 >>> ((32 : Int32) &&& 0x3f).toInt64.toUInt64).toInt64) cp)), .unset, .unset, .unset, .unset, .unset, .unset, .unset] [(.int (own_ce ((h_.toUInt64 >>> ((32 : Int32) &&& 0x3f).toInt64.toUInt64).toInt64) cp))]) _
    refine own_s_istore X43.here hx #[.val (.int c0), .val (.int f0), .val (.long h_), .second, .val (.long sd), .second, .val (.int cp), .val (.int (0 : Int32)), .val (.ref b36), .val (.int (own_ce ((h_.toUInt64 >>> ((32 : Int32) &&& 0x3f).toInt64.toUInt64).toInt64) cp)), .val (.int (own_ce ((h_.toUInt64 >>> ((32 : Int32) &&& 0x3f).toInt64.toUInt64).toInt64) cp)), .unset, .unset, .unset, .unset, .unset, .unset] (hb hby at_58) rfl ?_
    refine own_s_lloadN X43.here hx (hb hby at_60) rfl ?_
    refine own_s_bipush X43.here hx (32 : Int32) (hb hby at_61) rfl ?_
    refine own_s_lshr X43.here hx (hb hby at_63) ?_
    refine own_by (fun tq_ kq_ => X43.ldc2Long hx hown (mvT hZ (hw _ (List.mem_of_getElem? (i := 37) rfl))) (g := (mkF m 64 #[.val (.int c0), .val (.int f0), .val (.long h_), .second, .val (.long sd), .second, .val (.int cp), .val (.int (0 : Int32)), .val (.ref b36), .val (.int (own_ce ((h_.toUInt64 >>> ((32 : Int32) &&& 0x3f).toInt64.toUInt64).toInt64) cp)), .val (.int (own_ce ((h_.toUInt64 >>> ((32 : Int32) &&& 0x3f).toInt64.toUInt64).toInt64) cp)), .unset, .unset, .unset, .unset, .unset, .unset] [(.long (h_ >>> ((32 : Int32) &&& 0x3f).toInt64))])) rfl (hb hby at_64) tq_ kq_) ?_
    show own_Go p e below T43 (mkF m 67 #[.val (.int c0), .val (.int f0), .val (.long h_), .second, .val (.long sd), .second, .val (.int cp), .val (.int (0 : Int32)), .val (.ref b36), .val (.int (own_ce ((h_.toUInt64 >>> ((32 : Int32) &&& 0x3f).toInt64.toUInt64).toInt64) cp)), .val (.int (own_ce ((h_.toUInt64 >>> ((32 : Int32) &&& 0x3f).toInt64.toUInt64).toInt64) cp)), .unset, .unset, .unset, .unset, .unset, .unset] [(.long (4294967295 : Int64)), (.long (h_ >>> ((32 : Int32) &&& 0x3f).toInt64))]) _
    refine own_s_land X43.here hx (hb hby at_67) ?_
    rw [own_hh]
    show own_Go p e below T43 (mkF m 68 #[.val (.int c0), .val (.int f0), .val (.long h_), .second, .val (.long sd), .second, .val (.int cp), .val (.int (0 : Int32)), .val (.ref b36), .val (.int (own_ce ((h_.toUInt64 >>> ((32 : Int32) &&& 0x3f).toInt64.toUInt64).toInt64) cp)), .val (.int (own_ce ((h_.toUInt64 >>> ((32 : Int32) &&& 0x3f).toInt64.toUInt64).toInt64) cp)), .unset, .unset, .unset, .unset, .unset, .unset] [(.long ((h_.toUInt64 >>> ((32 : Int32) &&& 0x3f).toInt64.toUInt64).toInt64))]) _
    refine own_s_lstore X43.here hx #[.val (.int c0), .val (.int f0), .val (.long h_), .second, .val (.long sd), .second, .val (.int cp), .val (.int (0 : Int32)), .val (.ref b36), .val (.int (own_ce ((h_.toUInt64 >>> ((32 : Int32) &&& 0x3f).toInt64.toUInt64).toInt64) cp)), .val (.int (own_ce ((h_.toUInt64 >>> ((32 : Int32) &&& 0x3f).toInt64.toUInt64).toInt64) cp)), .val (.long ((h_.toUInt64 >>> ((32 : Int32) &&& 0x3f).toInt64.toUInt64).toInt64)), .second, .unset, .unset, .unset, .unset] (hb hby at_68) rfl ?_
    refine own_s_lloadN X43.here hx (hb hby at_70) rfl ?_
    refine own_by (fun tq_ kq_ => X43.ldc2Long hx hown (mvT hZ (hw _ (List.mem_of_getElem? (i := 37) rfl))) (g := (mkF m 71 #[.val (.int c0), .val (.int f0), .val (.long h_), .second, .val (.long sd), .second, .val (.int cp), .val (.int (0 : Int32)), .val (.ref b36), .val (.int (own_ce ((h_.toUInt64 >>> ((32 : Int32) &&& 0x3f).toInt64.toUInt64).toInt64) cp)), .val (.int (own_ce ((h_.toUInt64 >>> ((32 : Int32) &&& 0x3f).toInt64.toUInt64).toInt64) cp)), .val (.long ((h_.toUInt64 >>> ((32 : Int32) &&& 0x3f).toInt64.toUInt64).toInt64)), .second, .unset, .unset, .unset, .unset] [(.long h_)])) rfl (hb hby at_71) tq_ kq_) ?_
    show own_Go p e below T43 (mkF m 74 #[.val (.int c0), .val (.int f0), .val (.long h_), .second, .val (.long sd), .second, .val (.int cp), .val (.int (0 : Int32)), .val (.ref b36), .val (.int (own_ce ((h_.toUInt64 >>> ((32 : Int32) &&& 0x3f).toInt64.toUInt64).toInt64) cp)), .val (.int (own_ce ((h_.toUInt64 >>> ((32 : Int32) &&& 0x3f).toInt64.toUInt64).toInt64) cp)), .val (.long ((h_.toUInt64 >>> ((32 : Int32) &&& 0x3f).toInt64.toUInt64).toInt64)), .second, .unset, .unset, .unset, .unset] [(.long (4294967295 : Int64)), (.long h_)]) _
    refine own_s_land X43.here hx (hb hby at_74) ?_
    refine own_s_lstore X43.here hx #[.val (.int c0), .val (.int f0), .val (.long h_), .second, .val (.long sd), .second, .val (.int cp), .val (.int (0 : Int32)), .val (.ref b36), .val (.int (own_ce ((h_.toUInt64 >>> ((32 : Int32) &&& 0x3f).toInt64.toUInt64).toInt64) cp)), .val (.int (own_ce ((h_.toUInt64 >>> ((32 : Int32) &&& 0x3f).toInt64.toUInt64).toInt64) cp)), .val (.long ((h_.toUInt64 >>> ((32 : Int32) &&& 0x3f).toInt64.toUInt64).toInt64)), .second, .val (.long (h_ &&& (4294967295 : Int64))), .second, .unset, .unset] (hb hby at_75) rfl ?_
    refine own_s_iload X43.here hx (hb hby at_77) rfl ?_
    show own_Go p e below T43 (mkF m 79 #[.val (.int c0), .val (.int f0), .val (.long h_), .second, .val (.long sd), .second, .val (.int cp), .val (.int (0 : Int32)), .val (.ref b36), .val (.int (own_ce ((h_.toUInt64 >>> ((32 : Int32) &&& 0x3f).toInt64.toUInt64).toInt64) cp)), .val (.int (own_ce ((h_.toUInt64 >>> ((32 : Int32) &&& 0x3f).toInt64.toUInt64).toInt64) cp)), .val (.long ((h_.toUInt64 >>> ((32 : Int32) &&& 0x3f).toInt64.toUInt64).toInt64)), .second, .val (.long (h_ &&& (4294967295 : Int64))), .second, .unset, .unset] [(.int (0 : Int32))]) _
    refine own_s_ifYes X43.here hx 87 (hb hby at_79) (Jvm.Free.XT.i0_eq_t ((by decide))) (by decide) (by decide) ?_
    refine own_s_lload X43.here hx (hb hby at_87) rfl ?_
    refine own_s_lstore X43.here hx #[.val (.int c0), .val (.int f0), .val (.long h_), .second, .val (.long sd), .second, .val (.int cp), .val (.int (0 : Int32)), .val (.ref b36), .val (.int (own_ce ((h_.toUInt64 >>> ((32 : Int32) &&& 0x3f).toInt64.toUInt64).toInt64) cp)), .val (.int (own_ce ((h_.toUInt64 >>> ((32 : Int32) &&& 0x3f).toInt64.toUInt64).toInt64) cp)), .val (.long ((h_.toUInt64 >>> ((32 : Int32) &&& 0x3f).toInt64.toUInt64).toInt64)), .second, .val (.long (h_ &&& (4294967295 : Int64))), .second, .val (.long ((h_.toUInt64 >>> ((32 : Int32) &&& 0x3f).toInt64.toUInt64).toInt64)), .second] (hb hby at_89) rfl ?_
    refine own_s_iload X43.here hx (hb hby at_91) rfl ?_
    refine own_s_i2l X43.here hx (hb hby at_93) ?_
    refine own_s_lload X43.here hx (hb hby at_94) rfl ?_
    refine own_s_iload X43.here hx (hb hby at_96) rfl ?_
    refine own_s_i2l X43.here hx (hb hby at_98) ?_
    obtain ⟨_, _, ⟨T44, L44, k44, n44⟩, -, X44, ⟨Lc44, hQ44, l44, y44, z44⟩, st44⟩ := Jvm.LawKit.callS X43 hx (y := (⟨"com/example/tallymark/tallymark/FilterCellPinLaw", "isScaledCell", "(JJJ)Z"⟩ : MethodName)) hown (mvT hZ (hw _ (List.mem_of_getElem? (i := 38) rfl))) (mvT hZ (hw _ (List.mem_of_getElem? (i := 39) rfl))) (mvT hZ (hw _ (List.mem_of_getElem? (i := 40) rfl))) (mvT hZ (hw _ (List.mem_of_getElem? (i := 41) rfl))) (by decide) (backOf (W := 0) (own_r6 l Z a0 hw [] ((own_ce ((h_.toUInt64 >>> ((32 : Int32) &&& 0x3f).toInt64.toUInt64).toInt64) cp).toInt64) ((h_.toUInt64 >>> ((32 : Int32) &&& 0x3f).toInt64.toUInt64).toInt64) (cp.toInt64)  T40.heap n0 SZ40 ) hZ (hw _ (List.mem_of_getElem? (i := 41) rfl)) (hw _ (List.mem_of_getElem? (i := 40) rfl)) (by decide) (by decide)) (g := (mkF m 99 #[.val (.int c0), .val (.int f0), .val (.long h_), .second, .val (.long sd), .second, .val (.int cp), .val (.int (0 : Int32)), .val (.ref b36), .val (.int (own_ce ((h_.toUInt64 >>> ((32 : Int32) &&& 0x3f).toInt64.toUInt64).toInt64) cp)), .val (.int (own_ce ((h_.toUInt64 >>> ((32 : Int32) &&& 0x3f).toInt64.toUInt64).toInt64) cp)), .val (.long ((h_.toUInt64 >>> ((32 : Int32) &&& 0x3f).toInt64.toUInt64).toInt64)), .second, .val (.long (h_ &&& (4294967295 : Int64))), .second, .val (.long ((h_.toUInt64 >>> ((32 : Int32) &&& 0x3f).toInt64.toUInt64).toInt64)), .second] [(.long (cp.toInt64)), (.long ((h_.toUInt64 >>> ((32 : Int32) &&& 0x3f).toInt64.toUInt64).toInt64)), (.long ((own_ce ((h_.toUInt64 >>> ((32 : Int32) &&& 0x3f).toInt64.toUInt64).toInt64) cp).toInt64))])) rfl (by rw [hml]; rfl) (argsL := [(.long ((own_ce ((h_.toUInt64 >>> ((32 : Int32) &&& 0x3f).toInt64.toUInt64).toInt64) cp).toInt64)), (.long ((h_.toUInt64 >>> ((32 : Int32) &&& 0x3f).toInt64.toUInt64).toInt64)), (.long (cp.toInt64))]) (rest := []) (lenOf own_pd_5 rfl) rfl (by show 2 * 0 + _ ≤ _; exact Nat.le_of_eq rfl) (hb hby at_99) (fun _ _ => ⟨rfl, e43, (by decide : 2 + 0 ≤ _), (by decide : 6 + 0 ≤ _)⟩)
    dsimp only [Pt.U, Pt.locs, Pt.cells, Pt.slots] at X44 l44 y44 z44 st44 hQ44
    subst l44 y44 z44
    obtain ⟨rfl, N44q, e44⟩ := hQ44
    have N44 := Fr.app N43 N44q
    refine own_by st44 ?_
    show own_Go p e below T44 (mkF m 102 #[.val (.int c0), .val (.int f0), .val (.long h_), .second, .val (.long sd), .second, .val (.int cp), .val (.int (0 : Int32)), .val (.ref b36), .val (.int (own_ce ((h_.toUInt64 >>> ((32 : Int32) &&& 0x3f).toInt64.toUInt64).toInt64) cp)), .val (.int (own_ce ((h_.toUInt64 >>> ((32 : Int32) &&& 0x3f).toInt64.toUInt64).toInt64) cp)), .val (.long ((h_.toUInt64 >>> ((32 : Int32) &&& 0x3f).toInt64.toUInt64).toInt64)), .second, .val (.long (h_ &&& (4294967295 : Int64))), .second, .val (.long ((h_.toUInt64 >>> ((32 : Int32) &&& 0x3f).toInt64.toUInt64).toInt64)), .second] [(.int (own_f6 ((own_ce ((h_.toUInt64 >>> ((32 : Int32) &&& 0x3f).toInt64.toUInt64).toInt64) cp).toInt64) ((h_.toUInt64 >>> ((32 : Int32) &&& 0x3f).toInt64.toUInt64).toInt64) (cp.toInt64)))]) _
    have own_e102 : (own_f6 ((own_ce ((h_.toUInt64 >>> ((32 : Int32) &&& 0x3f).toInt64.toUInt64).toInt64) cp).toInt64) ((h_.toUInt64 >>> ((32 : Int32) &&& 0x3f).toInt64.toUInt64).toInt64) (cp.toInt64)) = (1 : Int32) := own_sc _ cp (own_hb h_) hcp
    refine own_s_ifNo X44.here hx (hb hby at_102) (Jvm.Free.XT.i0_eq_f ((by rw [own_e102]; decide))) ?_
    refine own_s_iload X44.here hx (hb hby at_105) rfl ?_
    refine own_s_i2l X44.here hx (hb hby at_107) ?_
    refine own_s_lload X44.here hx (hb hby at_108) rfl ?_
    refine own_s_iload X44.here hx (hb hby at_110) rfl ?_
    refine own_s_i2l X44.here hx (hb hby at_112) ?_
    obtain ⟨_, _, ⟨T45, L45, k45, n45⟩, -, X45, ⟨Lc45, hQ45, l45, y45, z45⟩, st45⟩ := Jvm.LawKit.callS X44 hx (y := (⟨"com/example/tallymark/tallymark/FilterCellPinLaw", "isScaledCell", "(JJJ)Z"⟩ : MethodName)) hown (mvT hZ (hw _ (List.mem_of_getElem? (i := 38) rfl))) (mvT hZ (hw _ (List.mem_of_getElem? (i := 39) rfl))) (mvT hZ (hw _ (List.mem_of_getElem? (i := 40) rfl))) (mvT hZ (hw _ (List.mem_of_getElem? (i := 41) rfl))) (by decide) (backOf (W := 0) (own_r6 l Z a0 hw [] ((own_ce ((h_.toUInt64 >>> ((32 : Int32) &&& 0x3f).toInt64.toUInt64).toInt64) cp).toInt64) ((h_.toUInt64 >>> ((32 : Int32) &&& 0x3f).toInt64.toUInt64).toInt64) (cp.toInt64)  T40.heap n0 SZ40 ) hZ (hw _ (List.mem_of_getElem? (i := 41) rfl)) (hw _ (List.mem_of_getElem? (i := 40) rfl)) (by decide) (by decide)) (g := (mkF m 113 #[.val (.int c0), .val (.int f0), .val (.long h_), .second, .val (.long sd), .second, .val (.int cp), .val (.int (0 : Int32)), .val (.ref b36), .val (.int (own_ce ((h_.toUInt64 >>> ((32 : Int32) &&& 0x3f).toInt64.toUInt64).toInt64) cp)), .val (.int (own_ce ((h_.toUInt64 >>> ((32 : Int32) &&& 0x3f).toInt64.toUInt64).toInt64) cp)), .val (.long ((h_.toUInt64 >>> ((32 : Int32) &&& 0x3f).toInt64.toUInt64).toInt64)), .second, .val (.long (h_ &&& (4294967295 : Int64))), .second, .val (.long ((h_.toUInt64 >>> ((32 : Int32) &&& 0x3f).toInt64.toUInt64).toInt64)), .second] [(.long (cp.toInt64)), (.long ((h_.toUInt64 >>> ((32 : Int32) &&& 0x3f).toInt64.toUInt64).toInt64)), (.long ((own_ce ((h_.toUInt64 >>> ((32 : Int32) &&& 0x3f).toInt64.toUInt64).toInt64) cp).toInt64))])) rfl (by rw [hml]; rfl) (argsL := [(.long ((own_ce ((h_.toUInt64 >>> ((32 : Int32) &&& 0x3f).toInt64.toUInt64).toInt64) cp).toInt64)), (.long ((h_.toUInt64 >>> ((32 : Int32) &&& 0x3f).toInt64.toUInt64).toInt64)), (.long (cp.toInt64))]) (rest := []) (lenOf own_pd_5 rfl) rfl (by show 2 * 0 + _ ≤ _; exact Nat.le_of_eq rfl) (hb hby at_113) (fun _ _ => ⟨rfl, e44, (by decide : 2 + 0 ≤ _), (by decide : 6 + 0 ≤ _)⟩)
    dsimp only [Pt.U, Pt.locs, Pt.cells, Pt.slots] at X45 l45 y45 z45 st45 hQ45
    subst l45 y45 z45
    obtain ⟨rfl, N45q, e45⟩ := hQ45
    have N45 := Fr.app N44 N45q
    refine own_by st45 ?_
    show own_Go p e below T45 (mkF m 116 #[.val (.int c0), .val (.int f0), .val (.long h_), .second, .val (.long sd), .second, .val (.int cp), .val (.int (0 : Int32)), .val (.ref b36), .val (.int (own_ce ((h_.toUInt64 >>> ((32 : Int32) &&& 0x3f).toInt64.toUInt64).toInt64) cp)), .val (.int (own_ce ((h_.toUInt64 >>> ((32 : Int32) &&& 0x3f).toInt64.toUInt64).toInt64) cp)), .val (.long ((h_.toUInt64 >>> ((32 : Int32) &&& 0x3f).toInt64.toUInt64).toInt64)), .second, .val (.long (h_ &&& (4294967295 : Int64))), .second, .val (.long ((h_.toUInt64 >>> ((32 : Int32) &&& 0x3f).toInt64.toUInt64).toInt64)), .second] [(.int (own_f6 ((own_ce ((h_.toUInt64 >>> ((32 : Int32) &&& 0x3f).toInt64.toUInt64).toInt64) cp).toInt64) ((h_.toUInt64 >>> ((32 : Int32) &&& 0x3f).toInt64.toUInt64).toInt64) (cp.toInt64)))]) _
    have own_e116 : (own_f6 ((own_ce ((h_.toUInt64 >>> ((32 : Int32) &&& 0x3f).toInt64.toUInt64).toInt64) cp).toInt64) ((h_.toUInt64 >>> ((32 : Int32) &&& 0x3f).toInt64.toUInt64).toInt64) (cp.toInt64)) = (1 : Int32) := own_sc _ cp (own_hb h_) hcp
    refine own_s_ifNo X45.here hx (hb hby at_116) (Jvm.Free.XT.i0_eq_f ((by rw [own_e116]; decide))) ?_
    refine own_s_iconst X45.here hx (1 : Int32) (hb hby at_119) rfl ?_
    show own_Go p e below T45 (mkF m 120 #[.val (.int c0), .val (.int f0), .val (.long h_), .second, .val (.long sd), .second, .val (.int cp), .val (.int (0 : Int32)), .val (.ref b36), .val (.int (own_ce ((h_.toUInt64 >>> ((32 : Int32) &&& 0x3f).toInt64.toUInt64).toInt64) cp)), .val (.int (own_ce ((h_.toUInt64 >>> ((32 : Int32) &&& 0x3f).toInt64.toUInt64).toInt64) cp)), .val (.long ((h_.toUInt64 >>> ((32 : Int32) &&& 0x3f).toInt64.toUInt64).toInt64)), .second, .val (.long (h_ &&& (4294967295 : Int64))), .second, .val (.long ((h_.toUInt64 >>> ((32 : Int32) &&& 0x3f).toInt64.toUInt64).toInt64)), .second] [(.int (1 : Int32))]) _
    refine own_s_goto X45.here hx 124 (hb hby at_120) (by decide) (by decide) ?_
    refine own_retZ X45 hx hret hlk (hb hby at_124) rfl (by decide) (by decide) ?_
    exact ⟨rfl, N45⟩
  ·
    refine own_s_ifNo X0.here hx (hb hby at_17) (Jvm.Free.XT.i0_eq_f hc17) ?_
    refine own_s_iconst X0.here hx (1 : Int32) (hb hby at_20) rfl ?_
    show own_Go p e below T0 (mkF m 21 #[.val (.int c0), .val (.int f0), .val (.long h_), .second, .val (.long sd), .second, .val (.int cp), .unset, .unset, .unset, .unset, .unset, .unset, .unset, .unset, .unset, .unset] [(.int (1 : Int32))]) _
    refine own_s_goto X0.here hx 25 (hb hby at_21) (by decide) (by decide) ?_
    refine own_s_istore X0.here hx #[.val (.int c0), .val (.int f0), .val (.long h_), .second, .val (.long sd), .second, .val (.int cp), .val (.int (1 : Int32)), .unset, .unset, .unset, .unset, .unset, .unset, .unset, .unset, .unset] (hb hby at_25) rfl ?_
    obtain ⟨T46, h46, X46, e46, E46, A46, D46, -, st46⟩ := newO X0 hx hZ hown (hw _ (List.mem_of_getElem? (i := 1) rfl)) (hw _ (List.mem_of_getElem? (i := 2) rfl)) (hw _ (List.mem_of_getElem? (i := 3) rfl)) e0 (g := (mkF m 27 #[.val (.int c0), .val (.int f0), .val (.long h_), .second, .val (.long sd), .second, .val (.int cp), .val (.int (1 : Int32)), .unset, .unset, .unset, .unset, .unset, .unset, .unset, .unset, .unset] [])) rfl (hb hby at_27) (by decide) (by decide)
    obtain ⟨b46, g46⟩ : ∃ z, z = h0.size := ⟨_, rfl⟩
    rw [← g46] at A46 D46 st46
    have ge_b46 : n0 ≤ b46 := Nat.le_trans Z0 (Nat.le_of_eq g46.symm)
    have SZ46 : n0 ≤ h46.size := Nat.le_trans Z0 E46.1
    have f47 : Fld Z h46 b46 "com/example/tallymark/tallymark/Filter" "cellCount" "I" (.int (0 : Int32)) := D46 (Or.inr (hw _ (List.mem_of_getElem? (i := 11) rfl))) (ty := .int) (by decide)
    have f48 : Fld Z h46 b46 "com/example/tallymark/tallymark/Filter" "twoCountersPerItem" "Z" (.int (0 : Int32)) := D46 (Or.inr (hw _ (List.mem_of_getElem? (i := 13) rfl))) (ty := .boolean) (by decide)
    have f49 : Fld Z h46 b46 "com/example/tallymark/tallymark/Filter" "hash" "Lcom/example/tallymark/tallymark/SeededHash;" .null := D46 (Or.inr (hw _ (List.mem_of_getElem? (i := 30) rfl))) (ty := (.object "com/example/tallymark/tallymark/SeededHash")) (by decide)
    refine own_by st46 ?_
    show own_Go p e below T46 (mkF m 30 #[.val (.int c0), .val (.int f0), .val (.long h_), .second, .val (.long sd), .second, .val (.int cp), .val (.int (1 : Int32)), .unset, .unset, .unset, .unset, .unset, .unset, .unset, .unset, .unset] [(.ref b46)]) _
    refine own_s_dup X46.here hx (hb hby at_30) rfl ?_
    refine own_s_iload X46.here hx (hb hby at_31) rfl ?_
    refine own_s_iload X46.here hx (hb hby at_33) rfl ?_
    refine own_s_lload X46.here hx (hb hby at_35) rfl ?_
    obtain ⟨_, _, ⟨T50, L50, k50, n50⟩, -, X50, ⟨Lc50, hQ50, l50, y50, z50⟩, st50⟩ := X46.specialBack hx (y := (⟨"com/example/tallymark/tallymark/Filter", "<init>", "(IZJ)V"⟩ : MethodName)) rfl hown (mvT hZ (hw _ (List.mem_of_getElem? (i := 4) rfl))) (mvT hZ (hw _ (List.mem_of_getElem? (i := 5) rfl))) (mvT hZ (hw _ (List.mem_of_getElem? (i := 6) rfl))) (by decide) (backOf (W := 1) (own_r1 l Z a0 hw [] b46 cp (1 : Int32) sd  h46 n0 SZ46 (by decide) A46 f47 f48 f49 ge_b46) hZ (hw _ (List.mem_of_getElem? (i := 6) rfl)) (hw _ (List.mem_of_getElem? (i := 3) rfl)) (by decide) (by decide)) (g := (mkF m 37 #[.val (.int c0), .val (.int f0), .val (.long h_), .second, .val (.long sd), .second, .val (.int cp), .val (.int (1 : Int32)), .unset, .unset, .unset, .unset, .unset, .unset, .unset, .unset, .unset] [(.long sd), (.int (1 : Int32)), (.int cp), (.ref b46), (.ref b46)])) rfl (by rw [hml]; rfl) (Steps.refl _) (a := b46) (argsL := [(.int cp), (.int (1 : Int32)), (.long sd)]) (rest := [(.ref b46)]) (lenOf own_pd_0 rfl) rfl (by show 2 * 0 + _ ≤ _; exact Nat.le_of_eq rfl) (hb hby at_37) (fun _ _ => ⟨rfl, e46, (by decide : 1 + 1 ≤ _), (by decide : 5 + 1 ≤ _)⟩)
    dsimp only [Pt.U, Pt.locs, Pt.cells, Pt.slots] at X50 l50 y50 z50 st50 hQ50
    subst l50 y50 z50
    obtain ⟨rfl, N50q, K50, fc50, ft50⟩ := hQ50
    have N50 := Fr.app N0 N50q
    have f51 := A46.keep K50
    have SZ50 : n0 ≤ T50.heap.size := Nat.le_trans SZ46 K50.1
    refine own_by (fun t k => st50.trans k) ?_
    show own_Go p e below T50 (mkF m 40 #[.val (.int c0), .val (.int f0), .val (.long h_), .second, .val (.long sd), .second, .val (.int cp), .val (.int (1 : Int32)), .unset, .unset, .unset, .unset, .unset, .unset, .unset, .unset, .unset] [(.ref b46)]) _
    refine own_s_astore X50.here hx #[.val (.int c0), .val (.int f0), .val (.long h_), .second, .val (.long sd), .second, .val (.int cp), .val (.int (1 : Int32)), .val (.ref b46), .unset, .unset, .unset, .unset, .unset, .unset, .unset, .unset] (hb hby at_40) rfl rfl ?_
    refine own_s_aload X50.here hx (hb hby at_42) rfl rfl ?_
    refine own_s_lloadN X50.here hx (hb hby at_44) rfl ?_
    refine own_s_iconst X50.here hx (0 : Int32) (hb hby at_45) rfl ?_
    obtain ⟨cq52, kq52, q52a, q52b, q52c⟩ := isOf hZ rfl f51
    obtain ⟨_, _, ⟨T52, L52, k52, n52⟩, -, X52, ⟨Lc52, hQ52, l52, y52, z52⟩, st52⟩ := X50.virtualBack hx (y := (⟨"com/example/tallymark/tallymark/Filter", "cell", "(JI)I"⟩ : MethodName)) (z := (⟨"com/example/tallymark/tallymark/Filter", "cell", "(JI)I"⟩ : MethodName)) hown (mvT hZ (hw _ (List.mem_of_getElem? (i := 31) rfl))) (mvT hZ (hw _ (List.mem_of_getElem? (i := 32) rfl))) (notFace_of_selects (args := #[]) (mvT hZ (hw _ (List.mem_of_getElem? (i := 34) rfl)))) (mvT hZ (hw _ (List.mem_of_getElem? (i := 34) rfl))) (mvT hZ (hw _ (List.mem_of_getElem? (i := 33) rfl))) (by decide) (backOf (W := 0) (own_c0 l Z a0 hw [] b46 h_ (0 : Int32) cp (1 : Int32) T50.heap n0 SZ50 rfl fc50 ft50) hZ (hw _ (List.mem_of_getElem? (i := 35) rfl)) (hw _ (List.mem_of_getElem? (i := 3) rfl)) (by decide) (by decide)) q52a q52c (g := (mkF m 46 #[.val (.int c0), .val (.int f0), .val (.long h_), .second, .val (.long sd), .second, .val (.int cp), .val (.int (1 : Int32)), .val (.ref b46), .unset, .unset, .unset, .unset, .unset, .unset, .unset, .unset] [(.int (0 : Int32)), (.long h_), (.ref b46)])) rfl (by rw [hml]; rfl) (Steps.refl _) (argsL := [(.long h_), (.int (0 : Int32))]) (rest := []) (lenOf own_pd_4 rfl) rfl (by show 2 * 0 + _ ≤ _; exact Nat.le_of_eq rfl) (hb hby at_46) (fun _ _ => ⟨rfl, rfl, (by decide : 2 + 0 ≤ _), (by decide : 6 + 0 ≤ _)⟩)
    dsimp only [Pt.U, Pt.locs, Pt.cells, Pt.slots] at X52 l52 y52 z52 st52 hQ52
    subst l52 y52 z52
    obtain ⟨rfl, N52q, e52⟩ := hQ52
    have N52 := Fr.app N50 N52q
    refine own_by (fun t k => st52.trans k) ?_
    show own_Go p e below T52 (mkF m 49 #[.val (.int c0), .val (.int f0), .val (.long h_), .second, .val (.long sd), .second, .val (.int cp), .val (.int (1 : Int32)), .val (.ref b46), .unset, .unset, .unset, .unset, .unset, .unset, .unset, .unset] [(.int (own_ce ((h_.toUInt64 >>> ((32 : Int32) &&& 0x3f).toInt64.toUInt64).toInt64) cp))]) _
    refine own_s_istore X52.here hx #[.val (.int c0), .val (.int f0), .val (.long h_), .second, .val (.long sd), .second, .val (.int cp), .val (.int (1 : Int32)), .val (.ref b46), .val (.int (own_ce ((h_.toUInt64 >>> ((32 : Int32) &&& 0x3f).toInt64.toUInt64).toInt64) cp)), .unset, .unset, .unset, .unset, .unset, .unset, .unset] (hb hby at_49) rfl ?_
    refine own_s_aload X52.here hx (hb hby at_51) rfl rfl ?_
    refine own_s_lloadN X52.here hx (hb hby at_53) rfl ?_
    refine own_s_iconst X52.here hx (1 : Int32) (hb hby at_54) rfl ?_
    obtain ⟨cq53, kq53, q53a, q53b, q53c⟩ := isOf hZ e52 f51
    obtain ⟨_, _, ⟨T53, L53, k53, n53⟩, -, X53, ⟨Lc53, hQ53, l53, y53, z53⟩, st53⟩ := X52.virtualBack hx (y := (⟨"com/example/tallymark/tallymark/Filter", "cell", "(JI)I"⟩ : MethodName)) (z := (⟨"com/example/tallymark/tallymark/Filter", "cell", "(JI)I"⟩ : MethodName)) hown (mvT hZ (hw _ (List.mem_of_getElem? (i := 31) rfl))) (mvT hZ (hw _ (List.mem_of_getElem? (i := 32) rfl))) (notFace_of_selects (args := #[]) (mvT hZ (hw _ (List.mem_of_getElem? (i := 34) rfl)))) (mvT hZ (hw _ (List.mem_of_getElem? (i := 34) rfl))) (mvT hZ (hw _ (List.mem_of_getElem? (i := 33) rfl))) (by decide) (backOf (W := 0) (own_c1y l Z a0 hw [] b46 h_ (1 : Int32) cp (1 : Int32) T50.heap n0 SZ50 rfl rfl fc50 ft50) hZ (hw _ (List.mem_of_getElem? (i := 35) rfl)) (hw _ (List.mem_of_getElem? (i := 3) rfl)) (by decide) (by decide)) q53a q53c (g := (mkF m 55 #[.val (.int c0), .val (.int f0), .val (.long h_), .second, .val (.long sd), .second, .val (.int cp), .val (.int (1 : Int32)), .val (.ref b46), .val (.int (own_ce ((h_.toUInt64 >>> ((32 : Int32) &&& 0x3f).toInt64.toUInt64).toInt64) cp)), .unset, .unset, .unset, .unset, .unset, .unset, .unset] [(.int (1 : Int32)), (.long h_), (.ref b46)])) rfl (by rw [hml]; rfl) (Steps.refl _) (argsL := [(.long h_), (.int (1 : Int32))]) (rest := []) (lenOf own_pd_4 rfl) rfl (by show 2 * 0 + _ ≤ _; exact Nat.le_of_eq rfl) (hb hby at_55) (fun _ _ => ⟨rfl, e52, (by decide : 2 + 0 ≤ _), (by decide : 6 + 0 ≤ _)⟩)
    dsimp only [Pt.U, Pt.locs, Pt.cells, Pt.slots] at X53 l53 y53 z53 st53 hQ53
    subst l53 y53 z53
    obtain ⟨rfl, N53q, e53⟩ := hQ53
    have N53 := Fr.app N52 N53q
    refine own_by (fun t k => st53.trans k) ?_
    show own_Go p e below T53 (mkF m 58 #[.val (.int c0), .val (.int f0), .val (.long h_), .second, .val (.long sd), .second, .val (.int cp), .val (.int (1 : Int32)), .val (.ref b46), .val (.int (own_ce ((h_.toUInt64 >>> ((32 : Int32) &&& 0x3f).toInt64.toUInt64).toInt64) cp)), .unset, .unset, .unset, .unset, .unset, .unset, .unset] [(.int (own_ce (h_ &&& (4294967295 : Int64)) cp))]) _
    refine own_s_istore X53.here hx #[.val (.int c0), .val (.int f0), .val (.long h_), .second, .val (.long sd), .second, .val (.int cp), .val (.int (1 : Int32)), .val (.ref b46), .val (.int (own_ce ((h_.toUInt64 >>> ((32 : Int32) &&& 0x3f).toInt64.toUInt64).toInt64) cp)), .val (.int (own_ce (h_ &&& (4294967295 : Int64)) cp)), .unset, .unset, .unset, .unset, .unset, .unset] (hb hby at_58) rfl ?_
    refine own_s_lloadN X53.here hx (hb hby at_60) rfl ?_
    refine own_s_bipush X53.here hx (32 : Int32) (hb hby at_61) rfl ?_
    refine own_s_lshr X53.here hx (hb hby at_63) ?_
    refine own_by (fun tq_ kq_ => X53.ldc2Long hx hown (mvT hZ (hw _ (List.mem_of_getElem? (i := 37) rfl))) (g := (mkF m 64 #[.val (.int c0), .val (.int f0), .val (.long h_), .second, .val (.long sd), .second, .val (.int cp), .val (.int (1 : Int32)), .val (.ref b46), .val (.int (own_ce ((h_.toUInt64 >>> ((32 : Int32) &&& 0x3f).toInt64.toUInt64).toInt64) cp)), .val (.int (own_ce (h_ &&& (4294967295 : Int64)) cp)), .unset, .unset, .unset, .unset, .unset, .unset] [(.long (h_ >>> ((32 : Int32) &&& 0x3f).toInt64))])) rfl (hb hby at_64) tq_ kq_) ?_
    show own_Go p e below T53 (mkF m 67 #[.val (.int c0), .val (.int f0), .val (.long h_), .second, .val (.long sd), .second, .val (.int cp), .val (.int (1 : Int32)), .val (.ref b46), .val (.int (own_ce ((h_.toUInt64 >>> ((32 : Int32) &&& 0x3f).toInt64.toUInt64).toInt64) cp)), .val (.int (own_ce (h_ &&& (4294967295 : Int64)) cp)), .unset, .unset, .unset, .unset, .unset, .unset] [(.long (4294967295 : Int64)), (.long (h_ >>> ((32 : Int32) &&& 0x3f).toInt64))]) _
    refine own_s_land X53.here hx (hb hby at_67) ?_
    rw [own_hh]
    show own_Go p e below T53 (mkF m 68 #[.val (.int c0), .val (.int f0), .val (.long h_), .second, .val (.long sd), .second, .val (.int cp), .val (.int (1 : Int32)), .val (.ref b46), .val (.int (own_ce ((h_.toUInt64 >>> ((32 : Int32) &&& 0x3f).toInt64.toUInt64).toInt64) cp)), .val (.int (own_ce (h_ &&& (4294967295 : Int64)) cp)), .unset, .unset, .unset, .unset, .unset, .unset] [(.long ((h_.toUInt64 >>> ((32 : Int32) &&& 0x3f).toInt64.toUInt64).toInt64))]) _
    refine own_s_lstore X53.here hx #[.val (.int c0), .val (.int f0), .val (.long h_), .second, .val (.long sd), .second, .val (.int cp), .val (.int (1 : Int32)), .val (.ref b46), .val (.int (own_ce ((h_.toUInt64 >>> ((32 : Int32) &&& 0x3f).toInt64.toUInt64).toInt64) cp)), .val (.int (own_ce (h_ &&& (4294967295 : Int64)) cp)), .val (.long ((h_.toUInt64 >>> ((32 : Int32) &&& 0x3f).toInt64.toUInt64).toInt64)), .second, .unset, .unset, .unset, .unset] (hb hby at_68) rfl ?_
    refine own_s_lloadN X53.here hx (hb hby at_70) rfl ?_
    refine own_by (fun tq_ kq_ => X53.ldc2Long hx hown (mvT hZ (hw _ (List.mem_of_getElem? (i := 37) rfl))) (g := (mkF m 71 #[.val (.int c0), .val (.int f0), .val (.long h_), .second, .val (.long sd), .second, .val (.int cp), .val (.int (1 : Int32)), .val (.ref b46), .val (.int (own_ce ((h_.toUInt64 >>> ((32 : Int32) &&& 0x3f).toInt64.toUInt64).toInt64) cp)), .val (.int (own_ce (h_ &&& (4294967295 : Int64)) cp)), .val (.long ((h_.toUInt64 >>> ((32 : Int32) &&& 0x3f).toInt64.toUInt64).toInt64)), .second, .unset, .unset, .unset, .unset] [(.long h_)])) rfl (hb hby at_71) tq_ kq_) ?_
    show own_Go p e below T53 (mkF m 74 #[.val (.int c0), .val (.int f0), .val (.long h_), .second, .val (.long sd), .second, .val (.int cp), .val (.int (1 : Int32)), .val (.ref b46), .val (.int (own_ce ((h_.toUInt64 >>> ((32 : Int32) &&& 0x3f).toInt64.toUInt64).toInt64) cp)), .val (.int (own_ce (h_ &&& (4294967295 : Int64)) cp)), .val (.long ((h_.toUInt64 >>> ((32 : Int32) &&& 0x3f).toInt64.toUInt64).toInt64)), .second, .unset, .unset, .unset, .unset] [(.long (4294967295 : Int64)), (.long h_)]) _
    refine own_s_land X53.here hx (hb hby at_74) ?_
    refine own_s_lstore X53.here hx #[.val (.int c0), .val (.int f0), .val (.long h_), .second, .val (.long sd), .second, .val (.int cp), .val (.int (1 : Int32)), .val (.ref b46), .val (.int (own_ce ((h_.toUInt64 >>> ((32 : Int32) &&& 0x3f).toInt64.toUInt64).toInt64) cp)), .val (.int (own_ce (h_ &&& (4294967295 : Int64)) cp)), .val (.long ((h_.toUInt64 >>> ((32 : Int32) &&& 0x3f).toInt64.toUInt64).toInt64)), .second, .val (.long (h_ &&& (4294967295 : Int64))), .second, .unset, .unset] (hb hby at_75) rfl ?_
    refine own_s_iload X53.here hx (hb hby at_77) rfl ?_
    refine own_s_ifNo X53.here hx (hb hby at_79) (Jvm.Free.XT.i0_eq_f ((by decide))) ?_
    refine own_s_lload X53.here hx (hb hby at_82) rfl ?_
    show own_Go p e below T53 (mkF m 84 #[.val (.int c0), .val (.int f0), .val (.long h_), .second, .val (.long sd), .second, .val (.int cp), .val (.int (1 : Int32)), .val (.ref b46), .val (.int (own_ce ((h_.toUInt64 >>> ((32 : Int32) &&& 0x3f).toInt64.toUInt64).toInt64) cp)), .val (.int (own_ce (h_ &&& (4294967295 : Int64)) cp)), .val (.long ((h_.toUInt64 >>> ((32 : Int32) &&& 0x3f).toInt64.toUInt64).toInt64)), .second, .val (.long (h_ &&& (4294967295 : Int64))), .second, .unset, .unset] [(.long (h_ &&& (4294967295 : Int64)))]) _
    refine own_s_goto X53.here hx 89 (hb hby at_84) (by decide) (by decide) ?_
    refine own_s_lstore X53.here hx #[.val (.int c0), .val (.int f0), .val (.long h_), .second, .val (.long sd), .second, .val (.int cp), .val (.int (1 : Int32)), .val (.ref b46), .val (.int (own_ce ((h_.toUInt64 >>> ((32 : Int32) &&& 0x3f).toInt64.toUInt64).toInt64) cp)), .val (.int (own_ce (h_ &&& (4294967295 : Int64)) cp)), .val (.long ((h_.toUInt64 >>> ((32 : Int32) &&& 0x3f).toInt64.toUInt64).toInt64)), .second, .val (.long (h_ &&& (4294967295 : Int64))), .second, .val (.long (h_ &&& (4294967295 : Int64))), .second] (hb hby at_89) rfl ?_
    refine own_s_iload X53.here hx (hb hby at_91) rfl ?_
    refine own_s_i2l X53.here hx (hb hby at_93) ?_
    refine own_s_lload X53.here hx (hb hby at_94) rfl ?_
    refine own_s_iload X53.here hx (hb hby at_96) rfl ?_
    refine own_s_i2l X53.here hx (hb hby at_98) ?_
    obtain ⟨_, _, ⟨T54, L54, k54, n54⟩, -, X54, ⟨Lc54, hQ54, l54, y54, z54⟩, st54⟩ := Jvm.LawKit.callS X53 hx (y := (⟨"com/example/tallymark/tallymark/FilterCellPinLaw", "isScaledCell", "(JJJ)Z"⟩ : MethodName)) hown (mvT hZ (hw _ (List.mem_of_getElem? (i := 38) rfl))) (mvT hZ (hw _ (List.mem_of_getElem? (i := 39) rfl))) (mvT hZ (hw _ (List.mem_of_getElem? (i := 40) rfl))) (mvT hZ (hw _ (List.mem_of_getElem? (i := 41) rfl))) (by decide) (backOf (W := 0) (own_r6 l Z a0 hw [] ((own_ce ((h_.toUInt64 >>> ((32 : Int32) &&& 0x3f).toInt64.toUInt64).toInt64) cp).toInt64) ((h_.toUInt64 >>> ((32 : Int32) &&& 0x3f).toInt64.toUInt64).toInt64) (cp.toInt64)  T50.heap n0 SZ50 ) hZ (hw _ (List.mem_of_getElem? (i := 41) rfl)) (hw _ (List.mem_of_getElem? (i := 40) rfl)) (by decide) (by decide)) (g := (mkF m 99 #[.val (.int c0), .val (.int f0), .val (.long h_), .second, .val (.long sd), .second, .val (.int cp), .val (.int (1 : Int32)), .val (.ref b46), .val (.int (own_ce ((h_.toUInt64 >>> ((32 : Int32) &&& 0x3f).toInt64.toUInt64).toInt64) cp)), .val (.int (own_ce (h_ &&& (4294967295 : Int64)) cp)), .val (.long ((h_.toUInt64 >>> ((32 : Int32) &&& 0x3f).toInt64.toUInt64).toInt64)), .second, .val (.long (h_ &&& (4294967295 : Int64))), .second, .val (.long (h_ &&& (4294967295 : Int64))), .second] [(.long (cp.toInt64)), (.long ((h_.toUInt64 >>> ((32 : Int32) &&& 0x3f).toInt64.toUInt64).toInt64)), (.long ((own_ce ((h_.toUInt64 >>> ((32 : Int32) &&& 0x3f).toInt64.toUInt64).toInt64) cp).toInt64))])) rfl (by rw [hml]; rfl) (argsL := [(.long ((own_ce ((h_.toUInt64 >>> ((32 : Int32) &&& 0x3f).toInt64.toUInt64).toInt64) cp).toInt64)), (.long ((h_.toUInt64 >>> ((32 : Int32) &&& 0x3f).toInt64.toUInt64).toInt64)), (.long (cp.toInt64))]) (rest := []) (lenOf own_pd_5 rfl) rfl (by show 2 * 0 + _ ≤ _; exact Nat.le_of_eq rfl) (hb hby at_99) (fun _ _ => ⟨rfl, e53, (by decide : 2 + 0 ≤ _), (by decide : 6 + 0 ≤ _)⟩)
    dsimp only [Pt.U, Pt.locs, Pt.cells, Pt.slots] at X54 l54 y54 z54 st54 hQ54
    subst l54 y54 z54
    obtain ⟨rfl, N54q, e54⟩ := hQ54
    have N54 := Fr.app N53 N54q
    refine own_by st54 ?_
    show own_Go p e below T54 (mkF m 102 #[.val (.int c0), .val (.int f0), .val (.long h_), .second, .val (.long sd), .second, .val (.int cp), .val (.int (1 : Int32)), .val (.ref b46), .val (.int (own_ce ((h_.toUInt64 >>> ((32 : Int32) &&& 0x3f).toInt64.toUInt64).toInt64) cp)), .val (.int (own_ce (h_ &&& (4294967295 : Int64)) cp)), .val (.long ((h_.toUInt64 >>> ((32 : Int32) &&& 0x3f).toInt64.toUInt64).toInt64)), .second, .val (.long (h_ &&& (4294967295 : Int64))), .second, .val (.long (h_ &&& (4294967295 : Int64))), .second] [(.int (own_f6 ((own_ce ((h_.toUInt64 >>> ((32 : Int32) &&& 0x3f).toInt64.toUInt64).toInt64) cp).toInt64) ((h_.toUInt64 >>> ((32 : Int32) &&& 0x3f).toInt64.toUInt64).toInt64) (cp.toInt64)))]) _
    have own_e102 : (own_f6 ((own_ce ((h_.toUInt64 >>> ((32 : Int32) &&& 0x3f).toInt64.toUInt64).toInt64) cp).toInt64) ((h_.toUInt64 >>> ((32 : Int32) &&& 0x3f).toInt64.toUInt64).toInt64) (cp.toInt64)) = (1 : Int32) := own_sc _ cp (own_hb h_) hcp
    refine own_s_ifNo X54.here hx (hb hby at_102) (Jvm.Free.XT.i0_eq_f ((by rw [own_e102]; decide))) ?_
    refine own_s_iload X54.here hx (hb hby at_105) rfl ?_
    refine own_s_i2l X54.here hx (hb hby at_107) ?_
    refine own_s_lload X54.here hx (hb hby at_108) rfl ?_
    refine own_s_iload X54.here hx (hb hby at_110) rfl ?_
    refine own_s_i2l X54.here hx (hb hby at_112) ?_
    obtain ⟨_, _, ⟨T55, L55, k55, n55⟩, -, X55, ⟨Lc55, hQ55, l55, y55, z55⟩, st55⟩ := Jvm.LawKit.callS X54 hx (y := (⟨"com/example/tallymark/tallymark/FilterCellPinLaw", "isScaledCell", "(JJJ)Z"⟩ : MethodName)) hown (mvT hZ (hw _ (List.mem_of_getElem? (i := 38) rfl))) (mvT hZ (hw _ (List.mem_of_getElem? (i := 39) rfl))) (mvT hZ (hw _ (List.mem_of_getElem? (i := 40) rfl))) (mvT hZ (hw _ (List.mem_of_getElem? (i := 41) rfl))) (by decide) (backOf (W := 0) (own_r6 l Z a0 hw [] ((own_ce (h_ &&& (4294967295 : Int64)) cp).toInt64) (h_ &&& (4294967295 : Int64)) (cp.toInt64)  T50.heap n0 SZ50 ) hZ (hw _ (List.mem_of_getElem? (i := 41) rfl)) (hw _ (List.mem_of_getElem? (i := 40) rfl)) (by decide) (by decide)) (g := (mkF m 113 #[.val (.int c0), .val (.int f0), .val (.long h_), .second, .val (.long sd), .second, .val (.int cp), .val (.int (1 : Int32)), .val (.ref b46), .val (.int (own_ce ((h_.toUInt64 >>> ((32 : Int32) &&& 0x3f).toInt64.toUInt64).toInt64) cp)), .val (.int (own_ce (h_ &&& (4294967295 : Int64)) cp)), .val (.long ((h_.toUInt64 >>> ((32 : Int32) &&& 0x3f).toInt64.toUInt64).toInt64)), .second, .val (.long (h_ &&& (4294967295 : Int64))), .second, .val (.long (h_ &&& (4294967295 : Int64))), .second] [(.long (cp.toInt64)), (.long (h_ &&& (4294967295 : Int64))), (.long ((own_ce (h_ &&& (4294967295 : Int64)) cp).toInt64))])) rfl (by rw [hml]; rfl) (argsL := [(.long ((own_ce (h_ &&& (4294967295 : Int64)) cp).toInt64)), (.long (h_ &&& (4294967295 : Int64))), (.long (cp.toInt64))]) (rest := []) (lenOf own_pd_5 rfl) rfl (by show 2 * 0 + _ ≤ _; exact Nat.le_of_eq rfl) (hb hby at_113) (fun _ _ => ⟨rfl, e54, (by decide : 2 + 0 ≤ _), (by decide : 6 + 0 ≤ _)⟩)
    dsimp only [Pt.U, Pt.locs, Pt.cells, Pt.slots] at X55 l55 y55 z55 st55 hQ55
    subst l55 y55 z55
    obtain ⟨rfl, N55q, e55⟩ := hQ55
    have N55 := Fr.app N54 N55q
    refine own_by st55 ?_
    show own_Go p e below T55 (mkF m 116 #[.val (.int c0), .val (.int f0), .val (.long h_), .second, .val (.long sd), .second, .val (.int cp), .val (.int (1 : Int32)), .val (.ref b46), .val (.int (own_ce ((h_.toUInt64 >>> ((32 : Int32) &&& 0x3f).toInt64.toUInt64).toInt64) cp)), .val (.int (own_ce (h_ &&& (4294967295 : Int64)) cp)), .val (.long ((h_.toUInt64 >>> ((32 : Int32) &&& 0x3f).toInt64.toUInt64).toInt64)), .second, .val (.long (h_ &&& (4294967295 : Int64))), .second, .val (.long (h_ &&& (4294967295 : Int64))), .second] [(.int (own_f6 ((own_ce (h_ &&& (4294967295 : Int64)) cp).toInt64) (h_ &&& (4294967295 : Int64)) (cp.toInt64)))]) _
    have own_e116 : (own_f6 ((own_ce (h_ &&& (4294967295 : Int64)) cp).toInt64) (h_ &&& (4294967295 : Int64)) (cp.toInt64)) = (1 : Int32) := own_sc _ cp (own_lb h_) hcp
    refine own_s_ifNo X55.here hx (hb hby at_116) (Jvm.Free.XT.i0_eq_f ((by rw [own_e116]; decide))) ?_
    refine own_s_iconst X55.here hx (1 : Int32) (hb hby at_119) rfl ?_
    show own_Go p e below T55 (mkF m 120 #[.val (.int c0), .val (.int f0), .val (.long h_), .second, .val (.long sd), .second, .val (.int cp), .val (.int (1 : Int32)), .val (.ref b46), .val (.int (own_ce ((h_.toUInt64 >>> ((32 : Int32) &&& 0x3f).toInt64.toUInt64).toInt64) cp)), .val (.int (own_ce (h_ &&& (4294967295 : Int64)) cp)), .val (.long ((h_.toUInt64 >>> ((32 : Int32) &&& 0x3f).toInt64.toUInt64).toInt64)), .second, .val (.long (h_ &&& (4294967295 : Int64))), .second, .val (.long (h_ &&& (4294967295 : Int64))), .second] [(.int (1 : Int32))]) _
    refine own_s_goto X55.here hx 124 (hb hby at_120) (by decide) (by decide) ?_
    refine own_retZ X55 hx hret hlk (hb hby at_124) rfl (by decide) (by decide) ?_
    exact ⟨rfl, N55⟩
theorem own_cpos (x : Int32) (h : ¬ (x &&& (2147483647 : Int32)) = 0) : 1 ≤ (x &&& (2147483647 : Int32)).toInt := by
  have e1 : (x &&& (2147483647 : Int32)).toInt = x.toInt % 2 ^ 31 := Jvm.Kit.i32_mask x _ (k := 31) (by decide) (by decide)
  rw [← Int32.toInt_inj, show (0 : Int32).toInt = 0 from by decide] at h
  omega
theorem own_ml : maxLocals = 17 := rfl
theorem own_ef0 (m : MethodId) (c0 : Int32) (f0 : Int32) (h_ : Int64) (sd : Int64) : entryFrame m #[(.int c0), (.int f0), (.long h_), (.long sd)] maxLocals = mkF m 0 #[.val (.int c0), .val (.int f0), .val (.long h_), .second, .val (.long sd), .second, .unset, .unset, .unset, .unset, .unset, .unset, .unset, .unset, .unset, .unset, .unset] [] := by first | (simp [entryFrame, mkF, argsToLocals, Value.category, maxLocals]; done) | rfl
def own_q_own_r0 (Z : State) (c0 : Int32) (f0 : Int32) (h_ : Int64) (sd : Int64) (h0 : Heap) (n0 : Nat) (v : Option Value) (h : Heap) (L : List Loc) : Prop := v = some (.int 1) ∧ Fr n0 L
set_option maxRecDepth 65536 in
set_option maxHeartbeats 40000000 in
theorem own_r0 (l : Launch) (Z : State) (a0 : Array Value) (hw : ∀ d ∈ tables_1, d.before a0 Z = true) (ws : List Jvm.Cond) (c0 : Int32) (f0 : Int32) (h_ : Int64) (sd : Int64) (h0 : Heap) (n0 : Nat) (Z0 : n0 ≤ h0.size) :
    MetFree l x (head1 (Jvm.Cond.code x code maxLocals ret :: ws) room_1) (fun a U => a = #[(.int c0), (.int f0), (.long h_), (.long sd)] ∧ Z.Warmed39 U.vm ∧ U.heap = h0) (fun _ _ _ _ _ => True) (fun _ U o U' => ∃ v L, o = .returned v ∧ own_q_own_r0 Z c0 f0 h_ sd h0 n0 v U'.heap L ∧ FrameEnd U o U' L 16 128) := by
  refine MetFree.of_bodySF (plainFor_of_name own_pn_FilterCellPinLaw) hisR ?_
  intro p e s m args below meth c T0 Bd hml0 hP hK
  obtain ⟨rfl, hZ, hh⟩ := hP
  have hx := Bd.exec
  have hby := Bd.bytes
  have hml : c.maxLocals = 17 := hml0
  have hown : s.vm.findClass "com/example/tallymark/tallymark/FilterCellPinLaw" = some m.cls := findClass_of_methodNamed Bd.named
  have hnm := (name_of_methodNamed Bd.named Bd.method).1
  have hret : meth.sig.returnType = (some .boolean) := Bd.returns
  have hlk : meth.locks = false := BodyLoose.notSynchronized Bd
  have X0 : Stand p l e room_1 s m #[(.int c0), (.int f0), (.long h_), (.long sd)] below meth c T0 [] 0 0 := Stand.of_body Bd
  have e0 : T0.heap = h0 := by rw [← hh, Bd.state]; rfl
  have N0 := Fr.nil n0
  refine own_start (own_ef0 m c0 f0 h_ sd) (Q := fun (v : Option Value) (h : Heap) (L : List Loc) => v = some (.int 1) ∧ Fr n0 L) (k := 16) (j := 128) ?_
  show own_Go p e below T0 (mkF m 0 #[.val (.int c0), .val (.int f0), .val (.long h_), .second, .val (.long sd), .second, .unset, .unset, .unset, .unset, .unset, .unset, .unset, .unset, .unset, .unset, .unset] []) _
  refine own_s_iloadN X0.here hx (hb hby at_0) rfl ?_
  refine own_by (fun tq_ kq_ => X0.ldcInt hx hown (mvT hZ (hw _ (List.mem_of_getElem? (i := 0) rfl))) (g := (mkF m 1 #[.val (.int c0), .val (.int f0), .val (.long h_), .second, .val (.long sd), .second, .unset, .unset, .unset, .unset, .unset, .unset, .unset, .unset, .unset, .unset, .unset] [(.int c0)])) rfl (hb hby at_1) tq_ kq_) ?_
  show own_Go p e below T0 (mkF m 3 #[.val (.int c0), .val (.int f0), .val (.long h_), .second, .val (.long sd), .second, .unset, .unset, .unset, .unset, .unset, .unset, .unset, .unset, .unset, .unset, .unset] [(.int (2147483647 : Int32)), (.int c0)]) _
  refine own_s_iand X0.here hx (hb hby at_3) ?_
  refine own_s_istore X0.here hx #[.val (.int c0), .val (.int f0), .val (.long h_), .second, .val (.long sd), .second, .val (.int (c0 &&& (2147483647 : Int32))), .unset, .unset, .unset, .unset, .unset, .unset, .unset, .unset, .unset, .unset] (hb hby at_4) rfl ?_
  refine own_s_iload X0.here hx (hb hby at_6) rfl ?_
  by_cases hc8 : (c0 &&& (2147483647 : Int32)) = 0
  ·
    refine own_s_ifNo X0.here hx (hb hby at_8) (Jvm.Free.XT.i0_ne_f hc8) ?_
    refine own_s_iconst X0.here hx (1 : Int32) (hb hby at_11) rfl ?_
    refine own_s_istore X0.here hx #[.val (.int c0), .val (.int f0), .val (.long h_), .second, .val (.long sd), .second, .val (.int (1 : Int32)), .unset, .unset, .unset, .unset, .unset, .unset, .unset, .unset, .unset, .unset] (hb hby at_12) rfl ?_
    exact own_p14 hx hZ hw hby hml hown hnm hret hlk  c0 f0 (1 : Int32) h_ sd X0 e0 N0 Z0 (by decide)
  ·
    show own_Go p e below T0 (mkF m 8 #[.val (.int c0), .val (.int f0), .val (.long h_), .second, .val (.long sd), .second, .val (.int (c0 &&& (2147483647 : Int32))), .unset, .unset, .unset, .unset, .unset, .unset, .unset, .unset, .unset, .unset] [(.int (c0 &&& (2147483647 : Int32)))]) _
    refine own_s_ifYes X0.here hx 14 (hb hby at_8) (Jvm.Free.XT.i0_ne_t hc8) (by decide) (by decide) ?_
    exact own_p14 hx hZ hw hby hml hown hnm hret hlk  c0 f0 (c0 &&& (2147483647 : Int32)) h_ sd X0 e0 N0 Z0 (own_cpos c0 hc8)
set_option maxRecDepth 65536 in
set_option maxHeartbeats 40000000 in
theorem own_comes {Post : Tables → Env → Array Value → State → Outcome → State → Prop} (hpost : ∀ tb e args s v u, (limb_1_1.after args s (.returned v) u = true ∧ limb_1_2.after args s (.returned v) u = true ∧ True) → FrameEnd s (.returned v) u (Jvm.fieldLocs frame_1_writes args s ++ Jvm.arrayLocs frame_1_arrays args s ++ Jvm.staticLocs frame_1_statics s) 16 128 → Post tb e args s (.returned v) u) :
    ArmFor flags0 classFile x code maxLocals ret World_1 tables_1 room_1 Calls_1 rest_1 Pre_1 Post := by
  intro l hfl _ _ p e ha hc hk s m args below hf hA hF happ hP
  obtain ⟨hcalls, hrest, hpre⟩ := hP
  obtain ⟨-, -, -, hnamed, -, -, -, hat⟩ := (Spec.applies_iff hf).mp happ
  obtain ⟨hg, hn⟩ := and_e (Cond.before_iff.mp (show (Jvm.Cond.and given_1 narrow_1).before args s = true from hpre))
  obtain ⟨g1, g2⟩ := and_e hg
  obtain ⟨g3, g4⟩ := and_e g2
  obtain ⟨g5, g6⟩ := and_e g4
  obtain ⟨g7, g8⟩ := and_e g6
  obtain ⟨w0, w1, w2, w3, rfl⟩ : ∃ w0 w1 w2 w3 : Value, args = #[w0, w1, w2, w3] := by
    have hs : args.size = 4 := by simpa [Cond.value, given_1] using g1
    obtain ⟨L⟩ := args
    match L, hs with
    | [w0, w1, w2, w3], _ => exact ⟨w0, w1, w2, w3, rfl⟩
  have hw := fun d (hd : d ∈ tables_1) => atoms_spec (ws := Jvm.Cond.code x code maxLocals ret :: tables_1) hat d (List.mem_cons_of_mem _ hd)
  obtain ⟨i0, ei0⟩ := is_v g3
  obtain rfl : w0 = (.int i0) := Option.some.inj ei0
  obtain ⟨i1, ei1⟩ := is_v g5
  obtain rfl : w1 = (.int i1) := Option.some.inj ei1
  obtain ⟨i2, ei2⟩ := isL_v g7
  obtain rfl : w2 = (.long i2) := Option.some.inj ei2
  obtain ⟨i3, ei3⟩ := isL_v g8
  obtain rfl : w3 = (.long i3) := Option.some.inj ei3
  obtain ⟨n, o, h1, h2, h3, _, L, rfl, ⟨rfl, N⟩, hq⟩ := own_r0 l s _ hw tables_1 i0 i1 i2 i3 s.heap s.heap.size (Nat.le_refl _) p e ha hc hk s m _ below hf ((Spec.applies_iff_loose hf).mp happ).1 ⟨rfl, State.Warmed39.refl s, rfl⟩ trivial
  refine ⟨n, _, h1, h2, h3, hpost _ _ _ _ _ _ ⟨Cond.after_iff.mpr rfl, Cond.after_iff.mpr (eq_i res_at (Term.int_eval (1)) rfl), trivial⟩ ⟨hq.1, hq.2.1, (hq.2.2.sift fun y hy => Or.inr (N y hy)).mono (by decide) (by decide)⟩⟩
theorem main_1_1 : Claimed_1_1 := own_comes fun _ _ _ _ _ _ h hF => ⟨h.1, hF⟩
theorem main_1_2 : Claimed_1_2 := own_comes fun _ _ _ _ _ _ h hF => ⟨h.2.1, hF⟩
end Jvm.Pilot.@@N@@
namespace Jvm.Pilot.@@N@@
open Jvm Jvm.ClassFile Sem Op Lib Jvm.Free Jvm.Stand Jvm.Pilot.@@N@@.Jvm.D
/-! MADE BY PROGRAM (witnessworld.py) out of the Statement's table words and the real class files: 10 classes; the members and pool entries that the words name. The judged class is class 1, her method 2. -/
namespace start1
open Jvm.ClassFile
def u (s : String) : CpInfo := .utf8 (stringToUtf16 s)
/-- a pool by its gaps: so many unusable entries, then the entry; so many at the end -/
def gap : Nat → List CpInfo → List CpInfo
  | 0, r => r
  | n + 1, r => .unusable :: gap n r
def poolList (es : List (Nat × CpInfo)) (last : Nat) : List CpInfo := es.foldr (fun e r => gap e.1 (e.2 :: r)) (gap last [])
def pool (es : List (Nat × CpInfo)) (last : Nat) : Array CpInfo := ⟨poolList es last⟩
def fileOf (pool : Array CpInfo) (this : Nat) (attrs : Array Attribute := #[]) (ms : Array MethodInfo := #[]) (fl : Nat := 33) (sup : Nat := 0) (ifs : Array Nat := #[]) (fds : Array FieldInfo := #[]) : ClassFile where
  minorVersion := 0
  majorVersion := 65
  constantPool := pool
  accessFlags := fl
  thisClass := this
  superClass := sup
  interfaces := ifs
  fields := fds
  methods := ms
  attributes := attrs
def plain (name : String) (sup : Option ClassId) : Class where
  name := name
  kind := .ordinary
  loader := none
  accessFlags := 33
  super := sup
  interfaces := #[]
  cf := none
  fields := #[]
  methods := #[]
  instanceTypes := #[]
  staticTypes := #[]
  resolved := #[]
  callSites := []
  init := .initialized
  statics := none
  mirror := none

def pool0 : Array CpInfo := pool [(5, u "<init>"), (0, u "()V"), (1, .class_ 10), (1, u "java/lang/Object")] 113

def k0c0 : Code := { maxStack := 0, maxLocals := 1, code := object_method_1_code, exceptionTable := #[], attributes := #[] }
def k0m0 : Method := { name := "<init>", desc := "()V", sig := { parameters := [], returnType := none }, accessFlags := 1, code := some k0c0 }
/-- java/lang/Object -/
def k0 : Class := { plain "java/lang/Object" none with
  accessFlags := 33
  interfaces := #[]
  cf := some (fileOf pool0 8 #[] #[{ accessFlags := 1, nameIndex := 5, descriptorIndex := 6, attributes := #[] }] 33 0 #[] #[])
  fields := #[]
  methods := #[k0m0]
  instanceTypes := #[]
  staticTypes := #[]
  resolved := Array.replicate 124 none
  statics := none }

def pool1 : Array CpInfo := pool [(2, .class_ 4), (1, u "java/lang/Object"), (0, u "<init>"), (0, u "()V"), (0, .long 4294967296), (1, .integer 2147483647), (0, .class_ 11), (0, u "com/example/tallymark/tallymark/Filter"), (0, .methodref 10 13), (0, .nameAndType 5 14), (0, u "(IZJ)V"), (0, .methodref 10 16), (0, .nameAndType 17 18), (0, u "cell"), (0, u "(JI)I"), (0, .long 4294967295), (1, .methodref 22 23), (0, .class_ 24), (0, .nameAndType 25 26), (0, u "com/example/tallymark/tallymark/FilterCellPinLaw"), (0, u "isScaledCell"), (0, u "(JJJ)Z"), (3, u "law"), (0, u "(IIJJ)Z")] 2

def k1m0 : Method := { name := "<init>", desc := "()V", sig := { parameters := [], returnType := none }, accessFlags := 2, code := none }
def k1c1 : Code := { maxStack := 4, maxLocals := 12, code := method_2_code, exceptionTable := #[], attributes := #[] }
def k1m1 : Method := { name := "isScaledCell", desc := "(JJJ)Z", sig := { parameters := [.long, .long, .long], returnType := some .boolean }, accessFlags := 10, code := some k1c1 }
def k1c2 : Code := { maxStack := 6, maxLocals := 17, code := code, exceptionTable := #[], attributes := #[] }
def k1m2 : Method := { name := "law", desc := "(IIJJ)Z", sig := { parameters := [.int, .int, .long, .long], returnType := some .boolean }, accessFlags := 9, code := some k1c2 }
/-- com/example/tallymark/tallymark/FilterCellPinLaw -/
def k1 : Class := { plain "com/example/tallymark/tallymark/FilterCellPinLaw" (some 0) with
  accessFlags := 49
  interfaces := #[]
  cf := some (fileOf pool1 22 #[] #[{ accessFlags := 2, nameIndex := 5, descriptorIndex := 6, attributes := #[] }, { accessFlags := 10, nameIndex := 25, descriptorIndex := 26, attributes := #[] }, { accessFlags := 9, nameIndex := 30, descriptorIndex := 31, attributes := #[] }] 49 2 #[] #[])
  fields := #[]
  methods := #[k1m0, k1m1, k1m2]
  instanceTypes := #[]
  staticTypes := #[]
  resolved := Array.replicate 34 none
  statics := none }

def pool2 : Array CpInfo := pool [(1, .methodref 2 3), (0, .class_ 4), (0, .nameAndType 5 6), (0, u "java/lang/Object"), (0, u "<init>"), (0, u "()V"), (0, .fieldref 8 9), (0, .class_ 10), (0, .nameAndType 11 12), (0, u "com/example/tallymark/tallymark/Filter"), (0, u "cellCount"), (0, u "I"), (0, .fieldref 8 14), (0, .nameAndType 15 16), (0, u "twoCountersPerItem"), (0, u "Z"), (0, .class_ 18), (0, u "com/example/tallymark/tallymark/SeededHash"), (0, .methodref 17 20), (0, .nameAndType 5 21), (0, u "(J)V"), (0, .fieldref 8 23), (0, .nameAndType 24 25), (0, u "hash"), (0, u "Lcom/example/tallymark/tallymark/SeededHash;"), (2, u "first"), (0, u "Lcom/example/tallymark/tallymark/CounterBank;"), (7, u "second"), (17, .long 4294967295), (3, u "cell"), (0, u "(JI)I"), (33, u "(IZJ)V")] 29

def k2c0 : Code := { maxStack := 5, maxLocals := 5, code := prog_10_method_1_code, exceptionTable := #[], attributes := #[] }
def k2m0 : Method := { name := "<init>", desc := "(IZJ)V", sig := { parameters := [.int, .boolean, .long], returnType := none }, accessFlags := 0, code := some k2c0 }
def k2c1 : Code := { maxStack := 4, maxLocals := 6, code := prog_10_method_9_code, exceptionTable := #[], attributes := #[] }
def k2m1 : Method := { name := "cell", desc := "(JI)I", sig := { parameters := [.long, .int], returnType := some .int }, accessFlags := 0, code := some k2c1 }
/-- com/example/tallymark/tallymark/Filter -/
def k2 : Class := { plain "com/example/tallymark/tallymark/Filter" (some 0) with
  accessFlags := 48
  interfaces := #[]
  cf := some (fileOf pool2 8 #[] #[{ accessFlags := 0, nameIndex := 5, descriptorIndex := 94, attributes := #[] }, { accessFlags := 0, nameIndex := 59, descriptorIndex := 60, attributes := #[] }] 48 2 #[] #[{ accessFlags := 18, nameIndex := 11, descriptorIndex := 12, attributes := #[] }, { accessFlags := 18, nameIndex := 15, descriptorIndex := 16, attributes := #[] }, { accessFlags := 18, nameIndex := 24, descriptorIndex := 25, attributes := #[] }, { accessFlags := 2, nameIndex := 28, descriptorIndex := 29, attributes := #[] }, { accessFlags := 2, nameIndex := 37, descriptorIndex := 29, attributes := #[] }])
  fields := #[{ name := "cellCount", type := .int, accessFlags := 18, slot := 0, constantValue := 0 }, { name := "twoCountersPerItem", type := .boolean, accessFlags := 18, slot := 1, constantValue := 0 }, { name := "hash", type := (.object "com/example/tallymark/tallymark/SeededHash"), accessFlags := 18, slot := 2, constantValue := 0 }, { name := "first", type := (.object "com/example/tallymark/tallymark/CounterBank"), accessFlags := 2, slot := 3, constantValue := 0 }, { name := "second", type := (.object "com/example/tallymark/tallymark/CounterBank"), accessFlags := 2, slot := 4, constantValue := 0 }]
  methods := #[k2m0, k2m1]
  instanceTypes := #[.int, .boolean, (.object "com/example/tallymark/tallymark/SeededHash"), (.object "com/example/tallymark/tallymark/CounterBank"), (.object "com/example/tallymark/tallymark/CounterBank")]
  staticTypes := #[]
  resolved := Array.replicate 124 none
  statics := none }

def pool3 : Array CpInfo := pool [(1, .methodref 2 3), (0, .class_ 4), (0, .nameAndType 5 6), (0, u "java/lang/Object"), (0, u "<init>"), (0, u "()V"), (0, .methodref 8 9), (0, .class_ 10), (0, .nameAndType 11 12), (0, u "com/example/tallymark/tallymark/SeededHash"), (0, u "mix"), (0, u "(J)J"), (0, .fieldref 8 14), (0, .nameAndType 15 16), (0, u "seedBits"), (0, u "J"), (9, .long 11400714819323198485), (1, .long 13787848793156543929), (1, .long 10723151780598845931), (1, u "GOLDEN"), (1, u "(J)V")] 5

def k3c0 : Code := { maxStack := 3, maxLocals := 3, code := prog_20_method_1_code, exceptionTable := #[], attributes := #[] }
def k3m0 : Method := { name := "<init>", desc := "(J)V", sig := { parameters := [.long], returnType := none }, accessFlags := 0, code := some k3c0 }
def k3c1 : Code := { maxStack := 5, maxLocals := 4, code := prog_20_method_4_code, exceptionTable := #[], attributes := #[] }
def k3m1 : Method := { name := "mix", desc := "(J)J", sig := { parameters := [.long], returnType := some .long }, accessFlags := 10, code := some k3c1 }
/-- com/example/tallymark/tallymark/SeededHash -/
def k3 : Class := { plain "com/example/tallymark/tallymark/SeededHash" (some 0) with
  accessFlags := 48
  interfaces := #[]
  cf := some (fileOf pool3 8 #[] #[{ accessFlags := 0, nameIndex := 5, descriptorIndex := 34, attributes := #[] }, { accessFlags := 10, nameIndex := 11, descriptorIndex := 12, attributes := #[] }] 48 2 #[] #[{ accessFlags := 26, nameIndex := 32, descriptorIndex := 16, attributes := #[] }, { accessFlags := 18, nameIndex := 15, descriptorIndex := 16, attributes := #[] }])
  fields := #[{ name := "GOLDEN", type := .long, accessFlags := 26, slot := 0, constantValue := 0 }, { name := "seedBits", type := .long, accessFlags := 18, slot := 0, constantValue := 0 }]
  methods := #[k3m0, k3m1]
  instanceTypes := #[.long]
  staticTypes := #[.long]
  resolved := Array.replicate 40 none
  statics := none }

def pool4 : Array CpInfo := pool [(1, u "java/lang/Cloneable"), (0, .class_ 1), (0, u "java/lang/Object"), (0, .class_ 3)] 3

/-- java/lang/Cloneable -/
def k4 : Class := { plain "java/lang/Cloneable" (some 0) with
  accessFlags := 1537
  interfaces := #[]
  cf := some (fileOf pool4 2 #[] #[] 1537 4 #[] #[])
  fields := #[]
  methods := #[]
  instanceTypes := #[]
  staticTypes := #[]
  resolved := Array.replicate 8 none
  statics := none }

def pool5 : Array CpInfo := pool [(1, u "java/io/Serializable"), (0, .class_ 1), (0, u "java/lang/Object"), (0, .class_ 3)] 3

/-- java/io/Serializable -/
def k5 : Class := { plain "java/io/Serializable" (some 0) with
  accessFlags := 1537
  interfaces := #[]
  cf := some (fileOf pool5 2 #[] #[] 1537 4 #[] #[])
  fields := #[]
  methods := #[]
  instanceTypes := #[]
  staticTypes := #[]
  resolved := Array.replicate 8 none
  statics := none }

/-- the primitive byte -/
def k6 : Class := { plain "byte" none with kind := .primitive 'B', accessFlags := 0x411 }
/-- [B -/
def k7 : Class := { plain "[B" (some 0) with kind := .array 6 .byte, interfaces := #[4, 5], accessFlags := 1041 }

/-- the primitive int -/
def k8 : Class := { plain "int" none with kind := .primitive 'I', accessFlags := 0x411 }
/-- [I -/
def k9 : Class := { plain "[I" (some 0) with kind := .array 8 .int, interfaces := #[4, 5], accessFlags := 1041 }

def heap : Heap := #[]
def classes : Array Class := #[k0, k1, k2, k3, k4, k5, k6, k7, k8, k9]
def interned : List (Array UInt16 × Addr) := []
def slotsUsed : Nat := 0
def theMethod : MethodId := ⟨1, 2⟩
def args0 : Array Value := #[.int 5, .int 5, .long 5, .long 5]
def aboutOver (below : List Frame) : State where
  vm := { classes := classes, interned := interned.toArray }
  heap := heap
  slotsUsed := slotsUsed
  threads := #[{ frames := .invoking theMethod args0 :: below }]
def below0 : List Frame := [.native { method := ⟨0, 0⟩, args := #[] }]
def about1 : State := aboutOver below0
def p0 : Program := .bare "" "" ""
def e0 : Env := launch0.env 0 0 0
theorem w_frames : about1.frames = Frame.invoking theMethod args0 :: below0 := rfl
set_option maxRecDepth 65536 in
theorem w_args : argsFit about1.vm theMethod args0 = true := by decide +kernel
set_option maxRecDepth 65536 in
theorem w_heap : heapFits about1 = true := by decide +kernel
set_option maxRecDepth 65536 in
theorem w_runnable : about1.curStatus? = some .runnable := by decide +kernel
set_option maxRecDepth 65536 in
theorem w_alone : about1.alone = true := by decide +kernel
set_option maxRecDepth 65536 in
theorem w_named : about1.methodNamed? x = some theMethod := by decide +kernel
set_option maxRecDepth 65536 in
theorem w_hears : about1.hears theMethod below0 = true := by decide +kernel
set_option maxRecDepth 65536 in
theorem w_ripe : about1.ripe theMethod args0 below0 = true := by decide +kernel
theorem w_running : about1.status = .running := rfl
set_option maxRecDepth 65536 in
theorem w_room : about1.hasRoom e0.platform room_1 = true :=
  launch0.hasRoom_least _ room_1 (by decide +kernel) (by decide +kernel) (by decide +kernel) (by decide +kernel) (by decide +kernel) (by decide +kernel)
theorem allAtoms_all (ts : List Jvm.Cond) (a : Array Jvm.Value) (st : Jvm.State) : (allAtoms ts).before a st = ts.all (fun c => c.before a st) := by
  induction ts with
  | nil => rfl
  | cons c t ih =>
    show (Jvm.Cond.and c (allAtoms t)).before a st = _
    rw [Jvm.Cond.before_and, ih, List.all_cons]
def words1 : List Jvm.Cond := Jvm.Cond.code x code maxLocals ret :: tables_1
/-- a 'code' word, met by the world's own term for the bytes: nothing is compared byte by byte -/
theorem code_word {y : MethodName} {bytes : ByteArray} {mx : Nat} {rt : Option FieldType} {a : Array Value} {s : State} {m : MethodId} {meth : Method} {c : Code} (h1 : s.methodNamed? y = some m) (h2 : s.vm.method? m = some meth) (h3 : meth.code = some c) (h4 : c.code = bytes)
    (h5 : (c.maxLocals == mx && c.exceptionTable.isEmpty && decide (c.maxStack ≤ mostOperands) && decide (meth.sig.returnType = rt) && !meth.locks && decide (parseMethodDescriptor y.desc = some meth.sig)) = true) : (Jvm.Cond.code y bytes mx rt).before a s = true := by
  simp only [Bool.and_eq_true, beq_iff_eq, Bool.not_eq_true', decide_eq_true_eq] at h5
  obtain ⟨⟨⟨⟨⟨g1, g2⟩, g3⟩, g4⟩, g5⟩, g6⟩ := h5
  simp [Cond.before, Cond.holds, Cond.value, h1, h2, h3, h4, g1, g2, g3, g4, g5, g6]
def isCode : Jvm.Cond → Bool
  | .code _ _ _ _ => true
  | _ => false
theorem all_split {L : List Jvm.Cond} {P : Jvm.Cond → Bool} (h1 : L.all (fun c => isCode c || P c) = true) (h2 : ∀ c ∈ L.filter isCode, P c = true) : L.all P = true := by
  refine List.all_eq_true.mpr fun c hc => ?_
  have h := List.all_eq_true.mp h1 c hc
  rcases Bool.eq_false_or_eq_true (isCode c) with hi | hi
  · exact h2 c (List.mem_filter.mpr ⟨hc, hi⟩)
  · simpa [hi] using h
set_option maxRecDepth 65536 in
theorem w_c0 : (Jvm.Cond.code x code maxLocals ret).before args0 about1 = true := code_word (m := ⟨1, 2⟩) (meth := k1m2) (c := k1c2) (by decide +kernel) rfl rfl rfl (by decide +kernel)
set_option maxRecDepth 65536 in
theorem w_c1 : (Jvm.Cond.code ({ cls := "com/example/tallymark/tallymark/Filter", name := "<init>", desc := "(IZJ)V" } : Jvm.MethodName) prog_10_method_1_code (5 : Nat) (Option.none : Option Jvm.ClassFile.FieldType)).before args0 about1 = true := code_word (m := ⟨2, 0⟩) (meth := k2m0) (c := k2c0) (by decide +kernel) rfl rfl rfl (by decide +kernel)
set_option maxRecDepth 65536 in
theorem w_c2 : (Jvm.Cond.code ({ cls := "java/lang/Object", name := "<init>", desc := "()V" } : Jvm.MethodName) object_method_1_code (1 : Nat) (Option.none : Option Jvm.ClassFile.FieldType)).before args0 about1 = true := code_word (m := ⟨0, 0⟩) (meth := k0m0) (c := k0c0) (by decide +kernel) rfl rfl rfl (by decide +kernel)
set_option maxRecDepth 65536 in
theorem w_c3 : (Jvm.Cond.code ({ cls := "com/example/tallymark/tallymark/SeededHash", name := "<init>", desc := "(J)V" } : Jvm.MethodName) prog_20_method_1_code (3 : Nat) (Option.none : Option Jvm.ClassFile.FieldType)).before args0 about1 = true := code_word (m := ⟨3, 0⟩) (meth := k3m0) (c := k3c0) (by decide +kernel) rfl rfl rfl (by decide +kernel)
set_option maxRecDepth 65536 in
theorem w_c4 : (Jvm.Cond.code ({ cls := "com/example/tallymark/tallymark/SeededHash", name := "mix", desc := "(J)J" } : Jvm.MethodName) prog_20_method_4_code (4 : Nat) (Option.some Jvm.ClassFile.FieldType.long)).before args0 about1 = true := code_word (m := ⟨3, 1⟩) (meth := k3m1) (c := k3c1) (by decide +kernel) rfl rfl rfl (by decide +kernel)
set_option maxRecDepth 65536 in
theorem w_c5 : (Jvm.Cond.code ({ cls := "com/example/tallymark/tallymark/Filter", name := "cell", desc := "(JI)I" } : Jvm.MethodName) prog_10_method_9_code (6 : Nat) (Option.some Jvm.ClassFile.FieldType.int)).before args0 about1 = true := code_word (m := ⟨2, 1⟩) (meth := k2m1) (c := k2c1) (by decide +kernel) rfl rfl rfl (by decide +kernel)
set_option maxRecDepth 65536 in
theorem w_c6 : (Jvm.Cond.code ({ cls := "com/example/tallymark/tallymark/FilterCellPinLaw", name := "isScaledCell", desc := "(JJJ)Z" } : Jvm.MethodName) method_2_code (12 : Nat) (Option.some Jvm.ClassFile.FieldType.boolean)).before args0 about1 = true := code_word (m := ⟨1, 1⟩) (meth := k1m1) (c := k1c1) (by decide +kernel) rfl rfl rfl (by decide +kernel)
def codes1 : List Jvm.Cond := [Jvm.Cond.code x code maxLocals ret, Jvm.Cond.code ({ cls := "com/example/tallymark/tallymark/Filter", name := "<init>", desc := "(IZJ)V" } : Jvm.MethodName) prog_10_method_1_code (5 : Nat) (Option.none : Option Jvm.ClassFile.FieldType), Jvm.Cond.code ({ cls := "java/lang/Object", name := "<init>", desc := "()V" } : Jvm.MethodName) object_method_1_code (1 : Nat) (Option.none : Option Jvm.ClassFile.FieldType), Jvm.Cond.code ({ cls := "com/example/tallymark/tallymark/SeededHash", name := "<init>", desc := "(J)V" } : Jvm.MethodName) prog_20_method_1_code (3 : Nat) (Option.none : Option Jvm.ClassFile.FieldType), Jvm.Cond.code ({ cls := "com/example/tallymark/tallymark/SeededHash", name := "mix", desc := "(J)J" } : Jvm.MethodName) prog_20_method_4_code (4 : Nat) (Option.some Jvm.ClassFile.FieldType.long), Jvm.Cond.code ({ cls := "com/example/tallymark/tallymark/Filter", name := "cell", desc := "(JI)I" } : Jvm.MethodName) prog_10_method_9_code (6 : Nat) (Option.some Jvm.ClassFile.FieldType.int), Jvm.Cond.code ({ cls := "com/example/tallymark/tallymark/FilterCellPinLaw", name := "isScaledCell", desc := "(JJJ)Z" } : Jvm.MethodName) method_2_code (12 : Nat) (Option.some Jvm.ClassFile.FieldType.boolean)]
set_option maxRecDepth 65536 in
theorem codes_eq : words1.filter isCode = codes1 := rfl
theorem w_codes : ∀ c ∈ words1.filter isCode, c.before args0 about1 = true := by
  rw [codes_eq]
  intro c hc
  simp only [codes1, List.mem_cons, List.not_mem_nil, or_false] at hc
  rcases hc with rfl | rfl | rfl | rfl | rfl | rfl | rfl
  · exact w_c0
  · exact w_c1
  · exact w_c2
  · exact w_c3
  · exact w_c4
  · exact w_c5
  · exact w_c6
set_option maxRecDepth 65536 in
theorem w_t1 : (words1.take 24).all (fun c => isCode c || c.before args0 about1) = true := by decide +kernel
set_option maxRecDepth 65536 in
theorem w_t2 : (words1.drop 24).all (fun c => isCode c || c.before args0 about1) = true := by decide +kernel
theorem w_tables : (allAtoms (Jvm.Cond.code x code maxLocals ret :: tables_1)).before args0 about1 = true := by
  rw [allAtoms_all]
  show words1.all (fun c => c.before args0 about1) = true
  refine all_split ?_ w_codes
  rw [← List.take_append_drop 24 words1, List.all_append, w_t1, w_t2]
  rfl
set_option maxRecDepth 65536 in
theorem w_case : (Jvm.Cond.and given_1 narrow_1).before args0 about1 = true := by decide +kernel
theorem w_applies : (headSpec (Jvm.Cond.code x code maxLocals ret :: tables_1) room_1).applies x e0.platform about1 = true :=
  (Spec.applies_iff w_frames).mpr ⟨w_running, w_runnable, w_alone, w_named, w_hears, w_ripe, w_room, w_tables⟩
theorem atStart : AtStart classFile x code maxLocals ret World_1 tables_1 room_1 Calls_1 rest_1 Pre_1 launch0 p0 e0 about1 theMethod args0 below0 :=
  ⟨lists_1, trivial, launch0.admits_env _ _ _, launch0.least_env, fairChoices_fair.cas, fairChoices_fair.clock, w_frames, w_args, w_heap, w_applies, trivial, trivial, w_case⟩
end start1
theorem witness_1 : WitnessClaimed_1 := ⟨start1.p0, start1.e0, start1.about1, start1.theMethod, start1.args0, start1.below0, start1.atStart⟩
end Jvm.Pilot.@@N@@
