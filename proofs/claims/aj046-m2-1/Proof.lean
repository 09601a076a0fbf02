import JvmDerived
import JvmDerived.Pilot.@@N@@Statement
import JvmDerived.Pilot.@@N@@Code
set_option linter.unusedVariables false
set_option linter.unusedSimpArgs false
@@BLOCK:NumsL.lean.txt@@
namespace Jvm.Pilot.@@N@@
open Jvm Jvm.ClassFile Sem Op Lib Jvm.Free Jvm.Stand Jvm.LawKit Jvm.RoadKit Bundle Jvm.Pilot.@@N@@.Jvm.D

/-! the walk's own small kit: from the frame g over the state T the body comes to its end, with Φ -/
def own_Go (p : Program) (e : Env) (below : List Frame) (T : State) (g : JFrame) (Φ : Outcome → State → Prop) : Prop :=
  ∃ s₂ o, Steps p.tables e below (T.setTop g) s₂ ∧ s₂.status = .running ∧ Ended s₂ below o ∧ Φ o s₂
def own_Fin (s : State) (Q : Option Value → Heap → List Loc → Prop) (k j : Nat) (o : Outcome) (U' : State) : Prop :=
  ∃ v L, o = .returned v ∧ Q v U'.heap L ∧ FrameEnd s o U' L k j
theorem own_by {p : Program} {e : Env} {below : List Frame} {T T' : State} {g g' : JFrame} {Φ : Outcome → State → Prop}
    (h : ∀ t, Steps p.tables e below (T'.setTop g') t → Steps p.tables e below (T.setTop g) t) (k : own_Go p e below T' g' Φ) : own_Go p e below T g Φ := by
  obtain ⟨s₂, o, h1, h2⟩ := k
  exact ⟨s₂, o, h _ h1, h2⟩
theorem own_start {p : Program} {e : Env} {below : List Frame} {s T : State} {g g' : JFrame} {Q : Option Value → Heap → List Loc → Prop} {k j : Nat} (hg : g = g')
    (h : own_Go p e below T g' (own_Fin s Q k j)) : ∃ s₂ o, Steps p.tables e below (T.setTop g) s₂ ∧ s₂.status = .running ∧ Ended s₂ below o ∧ ∃ v L, o = .returned v ∧ Q v s₂.heap L ∧ FrameEnd s o s₂ L k j := by
  subst hg
  exact h
section OwnRet
variable {p : Program} {l : Launch} {e : Env} {R : Room} {s : State} {m : MethodId} {args : Array Value} {below : List Frame} {meth : Method} {c : Code} {T : State} {locs : List Loc} {cells slots : Nat} {Q : Option Value → Heap → List Loc → Prop} {k j pc : Nat} {Ls : Array Slot} {rest : List Value}
theorem own_retN {t : FieldType} (ht : t = .boolean ∨ t = .byte ∨ t = .char ∨ t = .short) (X : Stand p l e R s m args below meth c T locs cells slots) (hx : p.tables.exec = Jvm.exec) (hret : meth.sig.returnType = some t) (hlk : meth.locks = false) {z : Int32} (hd : decode c.code pc = .ok (.ireturn, 1))
    (hz : nar t z = z) (hk : cells ≤ k) (hj : slots ≤ j) (q : Q (some (.int z)) T.heap locs) : own_Go p e below T (mkF m pc Ls (.int z :: rest)) (own_Fin s Q k j) := by
  obtain ⟨fs, hr, hrun, hended, hW, hsame⟩ := X.leave (v := some (.int z)) (fun h => by rw [hret] at h; cases h)
  exact ⟨_, _, retN X hx hret ht hd (by rw [hz]; exact hr), hrun, hended, _, _, rfl, q, ⟨_, rfl⟩, hW, hsame.mono hk hj⟩
theorem own_retZ (X : Stand p l e R s m args below meth c T locs cells slots) (hx : p.tables.exec = Jvm.exec) (hret : meth.sig.returnType = some .boolean) (hlk : meth.locks = false) {z : Int32} (hd : decode c.code pc = .ok (.ireturn, 1))
    (hz : nar .boolean z = z) (hk : cells ≤ k) (hj : slots ≤ j) (q : Q (some (.int z)) T.heap locs) : own_Go p e below T (mkF m pc Ls (.int z :: rest)) (own_Fin s Q k j) := own_retN (Or.inl rfl) X hx hret hlk hd hz hk hj q
theorem own_retI (X : Stand p l e R s m args below meth c T locs cells slots) (hx : p.tables.exec = Jvm.exec) (hret : meth.sig.returnType = some .int) (hlk : meth.locks = false) {z : Int32} (hd : decode c.code pc = .ok (.ireturn, 1))
    (hk : cells ≤ k) (hj : slots ≤ j) (q : Q (some (.int z)) T.heap locs) : own_Go p e below T (mkF m pc Ls (.int z :: rest)) (own_Fin s Q k j) := by
  obtain ⟨fs, hr, hrun, hended, hW, hsame⟩ := X.leave (v := some (.int z)) (fun h => by rw [hret] at h; cases h)
  exact ⟨_, _, retOut X hx hret rfl (Or.inl ⟨rfl, Or.inl rfl, z, rfl⟩) hd hr, hrun, hended, _, _, rfl, q, ⟨_, rfl⟩, hW, hsame.mono hk hj⟩
theorem own_retJ (X : Stand p l e R s m args below meth c T locs cells slots) (hx : p.tables.exec = Jvm.exec) (hret : meth.sig.returnType = some .long) (hlk : meth.locks = false) {z : Int64} (hd : decode c.code pc = .ok (.lreturn, 1))
    (hk : cells ≤ k) (hj : slots ≤ j) (q : Q (some (.long z)) T.heap locs) : own_Go p e below T (mkF m pc Ls (.long z :: rest)) (own_Fin s Q k j) := by
  obtain ⟨fs, hr, hrun, hended, hW, hsame⟩ := X.leave (v := some (.long z)) (fun h => by rw [hret] at h; cases h)
  exact ⟨_, _, retOut X hx hret rfl (Or.inr (Or.inl ⟨rfl, rfl, z, rfl⟩)) hd hr, hrun, hended, _, _, rfl, q, ⟨_, rfl⟩, hW, hsame.mono hk hj⟩
theorem own_retA {t : FieldType} (X : Stand p l e R s m args below meth c T locs cells slots) (hx : p.tables.exec = Jvm.exec) (hret : meth.sig.returnType = some t) (hlk : meth.locks = false) {z : Value} (hd : decode c.code pc = .ok (.areturn, 1))
    (ht : t.isReference = true) (hz : z.isRef = true) (hn : narrow t z = z) (hk : cells ≤ k) (hj : slots ≤ j) (q : Q (some z) T.heap locs) : own_Go p e below T (mkF m pc Ls (z :: rest)) (own_Fin s Q k j) := by
  obtain ⟨fs, hr, hrun, hended, hW, hsame⟩ := X.leave (v := some z) (fun h => by rw [hret] at h; cases h)
  exact ⟨_, _, retOut X hx hret hn (Or.inr (Or.inr (Or.inr (Or.inr ⟨rfl, ht, hz⟩)))) hd hr, hrun, hended, _, _, rfl, q, ⟨_, rfl⟩, hW, hsame.mono hk hj⟩
theorem own_retV (X : Stand p l e R s m args below meth c T locs cells slots) (hx : p.tables.exec = Jvm.exec) (hret : meth.sig.returnType = none) (hlk : meth.locks = false) (hd : decode c.code pc = .ok (.return_, 1))
    (hk : cells ≤ k) (hj : slots ≤ j) (q : Q none T.heap locs) : own_Go p e below T (mkF m pc Ls []) (own_Fin s Q k j) := by
  obtain ⟨fs, hr, hrun, hended, hW, hsame⟩ := X.leave (v := none) (fun _ => rfl)
  exact ⟨_, _, X.returnOut hx hret hd hr, hrun, hended, _, _, rfl, q, ⟨_, rfl⟩, hW, hsame.mono hk hj⟩
theorem own_lrem_eq (x y : Int64) : x - x / y * y = x % y := Int64.toInt_inj.mp (by rw [Jvm.Kit.i64_rem, Int64.toInt_mod])
theorem own_lrem {g : JFrame} {target : State} (X : Stand p l e R s m args below meth c T locs cells slots) (hx : p.tables.exec = Jvm.exec) (hg : g.method = m) {x y : Int64} {rest : List Value} (hd : decode c.code g.pc = .ok (.lrem, 1)) (hs : g.stack = .long y :: .long x :: rest) (hy : y ≠ 0)
    (hr : Steps p.tables e below (T.setTop { g with pc := g.pc + 1, stack := .long (x % y) :: rest }) target) : Steps p.tables e below (T.setTop g) target :=
  XS.lrem X.here hx hg hd hs hy (by rw [own_lrem_eq x y]; exact hr)
end OwnRet
/-! an array: its length, and what each place holds -/
abbrev own_At (j : Int32) (k : Nat) : Prop := ¬ j < 0 ∧ j.toNatClampNeg = k
def own_upd (f : Nat → Value) (k : Nat) (v : Value) : Nat → Value := fun i => if i = k then v else f i
theorem own_upd_hit {f : Nat → Value} {k i : Nat} {v : Value} (h : i = k) : own_upd f k v i = v := if_pos h
theorem own_upd_miss {f : Nat → Value} {k i : Nat} {v : Value} (h : ¬ i = k) : own_upd f k v i = f i := if_neg h
def own_Av (Z : State) (h : Heap) (a : Addr) (ty : FieldType) (n : Nat) (f : Nat → Value) : Prop := ∃ c : Cell, Arr Z h a c ty ∧ c.slots.size = n ∧ ∀ i, i < n → c.slots[i]? = some (f i)
section OwnArr
variable {Z : State} {h h' : Heap} {a b : Addr} {ty : FieldType} {n k sl : Nat} {f : Nat → Value} {v : Value} {ws : List Addr}
theorem own_Av.ext (F : own_Av Z h a ty n f) (E : Ext h h') : own_Av Z h' a ty n f := by obtain ⟨c, A, r⟩ := F; exact ⟨c, A.ext E, r⟩
theorem own_Av.other (F : own_Av Z h b ty n f) (W : Wr h h' a sl v) (q : b ≠ a) : own_Av Z h' b ty n f := by obtain ⟨c, A, r⟩ := F; exact ⟨c, A.other W q, r⟩
theorem own_Av.keep (F : own_Av Z h a ty n f) (K : Keep h h' ws) (q : a ∉ ws) : own_Av Z h' a ty n f := by obtain ⟨c, A, r⟩ := F; exact ⟨c, ⟨K.2.1 a c A.1 q, A.2⟩, r⟩
theorem own_Av.lt (F : own_Av Z h a ty n f) : a < h.size := by obtain ⟨c, A, -⟩ := F; exact A.lt
theorem own_Av.ofnew {z : Int32} {kc : ClassId} {d : Value} (A : Arr Z h a (newA kc ty z) ty) (hn : z.toNatClampNeg = n) (hd : defaultValue ty = d) : own_Av Z h a ty n (fun _ => d) := by
  subst hn hd
  exact ⟨_, A, sz_new _ _ _, fun i hi => by simp [newA, hi]⟩
theorem own_Av.set (F : own_Av Z h a ty n f) (W : Wr h h' a k v) : own_Av Z h' a ty n (own_upd f k v) := by
  obtain ⟨c, A, S, H⟩ := F
  refine ⟨_, A.same W, by rw [sz_set]; exact S, fun i hi => ?_⟩
  by_cases q : i = k
  · subst q
    rw [own_upd_hit rfl]
    simp [Cell.setSlot, S, hi]
  · rw [own_upd_miss q, ← H i hi]
    exact Array.getElem?_setIfInBounds_ne fun u => q u.symm
theorem own_Av.cong {g : Nat → Value} {n' : Nat} (F : own_Av Z h a ty n f) (hn : n = n') (q : ∀ i, i < n → f i = g i) : own_Av Z h a ty n' g := by
  subst hn
  obtain ⟨c, A, S, H⟩ := F
  exact ⟨c, A, S, fun i hi => by rw [← q i hi]; exact H i hi⟩
theorem own_in {j : Int32} (hj : own_At j k) (hk : k < n) {c : Cell} (S : c.slots.size = n) : ¬ (j < 0 ∨ c.slots.size ≤ j.toNatClampNeg) := by
  intro q
  rcases q with q | q
  · exact hj.1 q
  · rw [hj.2, S] at q; omega
variable {p : Program} {l : Launch} {e : Env} {R : Room} {s : State} {m : MethodId} {args : Array Value} {below : List Frame} {meth : Method} {c : Code} {T : State} {locs : List Loc} {cells slots : Nat}
theorem own_ldI (X : Stand p l e R s m args below meth c T locs cells slots) (hx : p.tables.exec = Jvm.exec) (hZ : Z.Warmed39 s.vm) (eT : T.heap = h) (F : own_Av Z h a .int n f) {j : Int32} (hj : own_At j k) (hk : k < n) (hv : f k = v)
    {g : JFrame} (hg : g.method = m) {rest : List Value} (hs : g.stack = .int j :: .ref a :: rest) (hd : decode c.code g.pc = .ok (.iaload, 1)) (t : State)
    (hr : Steps p.tables e below (T.setTop { g with pc := g.pc + 1, stack := v :: rest }) t) : Steps p.tables e below (T.setTop g) t := by
  obtain ⟨cl, A, S, H⟩ := F
  exact X.iaload hx (by rw [eT]; exact A.1) (State.isArrayOf_alike hZ.alike A.2.1) A.2.2 (own_in hj hk S) (by rw [hj.2, H k hk, hv]) hg hs hd t hr
theorem own_ldJ (X : Stand p l e R s m args below meth c T locs cells slots) (hx : p.tables.exec = Jvm.exec) (hZ : Z.Warmed39 s.vm) (eT : T.heap = h) (F : own_Av Z h a .long n f) {j : Int32} (hj : own_At j k) (hk : k < n) (hv : f k = v)
    {g : JFrame} (hg : g.method = m) {rest : List Value} (hs : g.stack = .int j :: .ref a :: rest) (hd : decode c.code g.pc = .ok (.laload, 1)) (t : State)
    (hr : Steps p.tables e below (T.setTop { g with pc := g.pc + 1, stack := v :: rest }) t) : Steps p.tables e below (T.setTop g) t := by
  obtain ⟨cl, A, S, H⟩ := F
  exact X.laload hx (by rw [eT]; exact A.1) (State.isArrayOf_alike hZ.alike A.2.1) A.2.2 (own_in hj hk S) (by rw [hj.2, H k hk, hv]) hg hs hd t hr
theorem own_ldS (X : Stand p l e R s m args below meth c T locs cells slots) (hx : p.tables.exec = Jvm.exec) (hZ : Z.Warmed39 s.vm) (eT : T.heap = h) (F : own_Av Z h a .short n f) {j : Int32} (hj : own_At j k) (hk : k < n) (hv : f k = v)
    {g : JFrame} (hg : g.method = m) {rest : List Value} (hs : g.stack = .int j :: .ref a :: rest) (hd : decode c.code g.pc = .ok (.saload, 1)) (t : State)
    (hr : Steps p.tables e below (T.setTop { g with pc := g.pc + 1, stack := v :: rest }) t) : Steps p.tables e below (T.setTop g) t := by
  obtain ⟨cl, A, S, H⟩ := F
  exact X.saload hx (by rw [eT]; exact A.1) (State.isArrayOf_alike hZ.alike A.2.1) A.2.2 (own_in hj hk S) (by rw [hj.2, H k hk, hv]) hg hs hd t hr
theorem own_ldC (X : Stand p l e R s m args below meth c T locs cells slots) (hx : p.tables.exec = Jvm.exec) (hZ : Z.Warmed39 s.vm) (eT : T.heap = h) (F : own_Av Z h a .char n f) {j : Int32} (hj : own_At j k) (hk : k < n) (hv : f k = v)
    {g : JFrame} (hg : g.method = m) {rest : List Value} (hs : g.stack = .int j :: .ref a :: rest) (hd : decode c.code g.pc = .ok (.caload, 1)) (t : State)
    (hr : Steps p.tables e below (T.setTop { g with pc := g.pc + 1, stack := v :: rest }) t) : Steps p.tables e below (T.setTop g) t := by
  obtain ⟨cl, A, S, H⟩ := F
  exact X.caload hx (by rw [eT]; exact A.1) (State.isArrayOf_alike hZ.alike A.2.1) A.2.2 (own_in hj hk S) (by rw [hj.2, H k hk, hv]) hg hs hd t hr
theorem own_ldB (X : Stand p l e R s m args below meth c T locs cells slots) (hx : p.tables.exec = Jvm.exec) (hZ : Z.Warmed39 s.vm) (eT : T.heap = h) (F : own_Av Z h a .byte n f) {j : Int32} (hj : own_At j k) (hk : k < n) (hv : f k = v)
    {g : JFrame} (hg : g.method = m) {rest : List Value} (hs : g.stack = .int j :: .ref a :: rest) (hd : decode c.code g.pc = .ok (.baload, 1)) (t : State)
    (hr : Steps p.tables e below (T.setTop { g with pc := g.pc + 1, stack := v :: rest }) t) : Steps p.tables e below (T.setTop g) t := by
  obtain ⟨cl, A, S, H⟩ := F
  exact X.baloadBytes hx (by rw [eT]; exact A.1) (State.isArrayOf_alike hZ.alike A.2.1) A.2.2 (own_in hj hk S) (by rw [hj.2, H k hk, hv]) hg hs hd t hr
theorem own_ldZ (X : Stand p l e R s m args below meth c T locs cells slots) (hx : p.tables.exec = Jvm.exec) (hZ : Z.Warmed39 s.vm) (eT : T.heap = h) (F : own_Av Z h a .boolean n f) {j : Int32} (hj : own_At j k) (hk : k < n) (hv : f k = v)
    {g : JFrame} (hg : g.method = m) {rest : List Value} (hs : g.stack = .int j :: .ref a :: rest) (hd : decode c.code g.pc = .ok (.baload, 1)) (t : State)
    (hr : Steps p.tables e below (T.setTop { g with pc := g.pc + 1, stack := v :: rest }) t) : Steps p.tables e below (T.setTop g) t := by
  obtain ⟨cl, A, S, H⟩ := F
  exact X.baloadBooleans hx (by rw [eT]; exact A.1) (State.isArrayOf_alike hZ.alike A.2.1) A.2.2 (own_in hj hk S) (by rw [hj.2, H k hk, hv]) hg hs hd t hr
theorem own_len (X : Stand p l e R s m args below meth c T locs cells slots) (hx : p.tables.exec = Jvm.exec) (hZ : Z.Warmed39 s.vm) (eT : T.heap = h) (F : own_Av Z h a ty n f) {z : Int32} (hz : n.toInt32 = z)
    {g : JFrame} (hg : g.method = m) {rest : List Value} (hs : g.stack = .ref a :: rest) (hd : decode c.code g.pc = .ok (.arraylength, 1)) (t : State)
    (hr : Steps p.tables e below (T.setTop { g with pc := g.pc + 1, stack := .int z :: rest }) t) : Steps p.tables e below (T.setTop g) t := by
  obtain ⟨cl, A, S, H⟩ := F
  exact X.arraylength hx (by rw [eT]; exact A.1) (State.isArrayOf_alike hZ.alike A.2.1) hg hs hd t (by rw [S, hz]; exact hr)
theorem own_stI (X : Stand p l e R s m args below meth c T locs cells slots) (hx : p.tables.exec = Jvm.exec) (hZ : Z.Warmed39 s.vm) (eT : T.heap = h) (F : own_Av Z h a .int n f) {j x : Int32} (hj : own_At j k) (hk : k < n)
    {g : JFrame} (hg : g.method = m) {rest : List Value} (hs : g.stack = .int x :: .int j :: .ref a :: rest) (hd : decode c.code g.pc = .ok (.iastore, 1)) :
    ∃ T' h', Stand p l e R s m args below meth c T' (locs ++ [⟨a, k⟩]) cells slots ∧ T'.heap = h' ∧ Wr h h' a k (.int x) ∧ own_Av Z h' a .int n (own_upd f k (.int x)) ∧ ∀ target, Steps p.tables e below (T'.setTop { g with pc := g.pc + 1, stack := rest }) target → Steps p.tables e below (T.setTop g) target := by
  obtain ⟨cl, A, S, H⟩ := id F
  obtain ⟨T', h', X', e', W', st⟩ := stI X hx hZ eT A (own_in hj hk S) hg hs hd
  rw [hj.2] at X' W'
  exact ⟨T', h', X', e', W', F.set W', st⟩
theorem own_stJ (X : Stand p l e R s m args below meth c T locs cells slots) (hx : p.tables.exec = Jvm.exec) (hZ : Z.Warmed39 s.vm) (eT : T.heap = h) (F : own_Av Z h a .long n f) {j : Int32} {x : Int64} (hj : own_At j k) (hk : k < n)
    {g : JFrame} (hg : g.method = m) {rest : List Value} (hs : g.stack = .long x :: .int j :: .ref a :: rest) (hd : decode c.code g.pc = .ok (.lastore, 1)) :
    ∃ T' h', Stand p l e R s m args below meth c T' (locs ++ [⟨a, k⟩]) cells slots ∧ T'.heap = h' ∧ Wr h h' a k (.long x) ∧ own_Av Z h' a .long n (own_upd f k (.long x)) ∧ ∀ target, Steps p.tables e below (T'.setTop { g with pc := g.pc + 1, stack := rest }) target → Steps p.tables e below (T.setTop g) target := by
  obtain ⟨cl, A, S, H⟩ := id F
  obtain ⟨T', h', X', e', W', st⟩ := stJ X hx hZ eT A (own_in hj hk S) hg hs hd
  rw [hj.2] at X' W'
  exact ⟨T', h', X', e', W', F.set W', st⟩
theorem own_stB (X : Stand p l e R s m args below meth c T locs cells slots) (hx : p.tables.exec = Jvm.exec) (hZ : Z.Warmed39 s.vm) (eT : T.heap = h) (F : own_Av Z h a .byte n f) {j x : Int32} (hj : own_At j k) (hk : k < n)
    {g : JFrame} (hg : g.method = m) {rest : List Value} (hs : g.stack = .int x :: .int j :: .ref a :: rest) (hd : decode c.code g.pc = .ok (.bastore, 1)) :
    ∃ T' h', Stand p l e R s m args below meth c T' (locs ++ [⟨a, k⟩]) cells slots ∧ T'.heap = h' ∧ Wr h h' a k (.int x.toInt8.toInt32) ∧ own_Av Z h' a .byte n (own_upd f k (.int x.toInt8.toInt32)) ∧ ∀ target, Steps p.tables e below (T'.setTop { g with pc := g.pc + 1, stack := rest }) target → Steps p.tables e below (T.setTop g) target := by
  obtain ⟨cl, A, S, H⟩ := id F
  obtain ⟨T', h', X', e', W', st⟩ := stB X hx hZ eT A (own_in hj hk S) hg hs hd
  rw [hj.2] at X' W'
  exact ⟨T', h', X', e', W', F.set W', st⟩
theorem own_stZ (X : Stand p l e R s m args below meth c T locs cells slots) (hx : p.tables.exec = Jvm.exec) (hZ : Z.Warmed39 s.vm) (eT : T.heap = h) (F : own_Av Z h a .boolean n f) {j x : Int32} (hj : own_At j k) (hk : k < n)
    {g : JFrame} (hg : g.method = m) {rest : List Value} (hs : g.stack = .int x :: .int j :: .ref a :: rest) (hd : decode c.code g.pc = .ok (.bastore, 1)) :
    ∃ T' h', Stand p l e R s m args below meth c T' (locs ++ [⟨a, k⟩]) cells slots ∧ T'.heap = h' ∧ Wr h h' a k (.int (x &&& 1)) ∧ own_Av Z h' a .boolean n (own_upd f k (.int (x &&& 1))) ∧ ∀ target, Steps p.tables e below (T'.setTop { g with pc := g.pc + 1, stack := rest }) target → Steps p.tables e below (T.setTop g) target := by
  obtain ⟨cl, A, S, H⟩ := id F
  obtain ⟨T', h', X', e', W', st⟩ := stZ X hx hZ eT A (own_in hj hk S) hg hs hd
  rw [hj.2] at X' W'
  exact ⟨T', h', X', e', W', F.set W', st⟩
theorem own_stC (X : Stand p l e R s m args below meth c T locs cells slots) (hx : p.tables.exec = Jvm.exec) (hZ : Z.Warmed39 s.vm) (eT : T.heap = h) (F : own_Av Z h a .char n f) {j x : Int32} (hj : own_At j k) (hk : k < n)
    {g : JFrame} (hg : g.method = m) {rest : List Value} (hs : g.stack = .int x :: .int j :: .ref a :: rest) (hd : decode c.code g.pc = .ok (.castore, 1)) :
    ∃ T' h', Stand p l e R s m args below meth c T' (locs ++ [⟨a, k⟩]) cells slots ∧ T'.heap = h' ∧ Wr h h' a k (.int (nar .char x)) ∧ own_Av Z h' a .char n (own_upd f k (.int (nar .char x))) ∧ ∀ target, Steps p.tables e below (T'.setTop { g with pc := g.pc + 1, stack := rest }) target → Steps p.tables e below (T.setTop g) target := by
  obtain ⟨cl, A, S, H⟩ := id F
  obtain ⟨T', h', X', e', W', st⟩ := stC X hx hZ eT A (own_in hj hk S) hg hs hd
  rw [hj.2] at X' W'
  exact ⟨T', h', X', e', W', F.set W', st⟩
theorem own_stS (X : Stand p l e R s m args below meth c T locs cells slots) (hx : p.tables.exec = Jvm.exec) (hZ : Z.Warmed39 s.vm) (eT : T.heap = h) (F : own_Av Z h a .short n f) {j x : Int32} (hj : own_At j k) (hk : k < n)
    {g : JFrame} (hg : g.method = m) {rest : List Value} (hs : g.stack = .int x :: .int j :: .ref a :: rest) (hd : decode c.code g.pc = .ok (.sastore, 1)) :
    ∃ T' h', Stand p l e R s m args below meth c T' (locs ++ [⟨a, k⟩]) cells slots ∧ T'.heap = h' ∧ Wr h h' a k (.int (nar .short x)) ∧ own_Av Z h' a .short n (own_upd f k (.int (nar .short x))) ∧ ∀ target, Steps p.tables e below (T'.setTop { g with pc := g.pc + 1, stack := rest }) target → Steps p.tables e below (T.setTop g) target := by
  obtain ⟨cl, A, S, H⟩ := id F
  obtain ⟨T', h', X', e', W', st⟩ := stS X hx hZ eT A (own_in hj hk S) hg hs hd
  rw [hj.2] at X' W'
  exact ⟨T', h', X', e', W', F.set W', st⟩
end OwnArr
theorem own_selP {Z s : State} {a0 args : Array Value} {y : MethodName} {n : Nat} (hZ : Z.Warmed39 s.vm) (wi : (Cond.instantiable y.cls n).before a0 Z = true) (wp : (Cond.privateMethod y).before a0 Z = true) (wm : (Cond.instanceMethod y).before a0 Z = true)
    (hy : y.cls ≠ "java/lang/invoke/MethodHandle" ∧ y.cls ≠ "java/lang/invoke/VarHandle") : (Cond.selects y.cls y y).before args s = true := by
  have w : (Cond.instantiable y.cls n).before args s = true := mvT hZ wi
  obtain ⟨c, k, h1, h2, -, h4, -⟩ := Cond.instantiable_spec w
  exact Jvm.Stand.selects_self_of_private h1 h2 (Bool.or_eq_false_iff.mp h4).1 (Cond.privateMethod_at (mvP hZ wp (args := args))) (mvT hZ wm) hy
theorem own_narZ {x : Int32} (h : x &&& 1 = x) : narrow .boolean (.int x) = .int x := by
  show Value.int (x &&& 1) = _
  rw [h]
theorem own_fitZ {x : Int32} (h : x &&& 1 = x) : fits .boolean (.int x) = true := by
  have q := fits_nar_bool x
  rw [show nar .boolean x = x from h] at q
  exact q
theorem own_mono {p : Program} {e : Env} {below : List Frame} {s T : State} {g : JFrame} {Q Q' : Option Value → Heap → List Loc → Prop} {k j : Nat} (h : ∀ v h L, Q v h L → Q' v h L) (G : own_Go p e below T g (own_Fin s Q k j)) : own_Go p e below T g (own_Fin s Q' k j) := by
  obtain ⟨s₂, o, h1, h2, h3, v, L, h4, h5, h6⟩ := G
  exact ⟨s₂, o, h1, h2, h3, v, L, h4, h _ _ _ h5, h6⟩
theorem own_ofs (i : Nat) : Int32.ofNat i + (1 : Int32) = Int32.ofNat (i + 1) := (Int32.ofNat_add i 1).symm
theorem own_toI {i : Nat} (h : i < 2147483648) : (Int32.ofNat i).toInt = i := Int32.toInt_ofNat_small h
theorem own_ix {i : Nat} (h : i < 2147483648) : own_At (Int32.ofNat i) i := by
  have e := own_toI h
  refine ⟨?_, ?_⟩
  · rw [Int32.lt_iff_toInt_lt, e, show (0 : Int32).toInt = 0 from by decide]; omega
  · simp only [Int32.toNatClampNeg, e]; omega
theorem own_oflt {i n : Nat} (hi : i < 2147483648) (hn : n < 2147483648) : Int32.ofNat i < Int32.ofNat n ↔ i < n := by
  rw [Int32.lt_iff_toInt_lt, own_toI hi, own_toI hn]; omega
theorem own_ofeq {i n : Nat} (hi : i < 2147483648) (hn : n < 2147483648) : Int32.ofNat i = Int32.ofNat n ↔ i = n := by
  rw [← Int32.toInt_inj, own_toI hi, own_toI hn]; omega
def own_fl (F : Nat → Int32) (i : Nat) (g : Nat → Value) (j : Nat) : Value := if j < i then .int (F j) else g j
theorem own_fl_up (F : Nat → Int32) (i : Nat) (g : Nat → Value) : ∀ j, own_upd (own_fl F i g) i (.int (F i)) j = own_fl F (i + 1) g j := fun j => by
  unfold own_fl
  by_cases q : j = i
  · subst q; rw [own_upd_hit rfl, if_pos (by omega)]
  · rw [own_upd_miss q]
    by_cases q2 : j < i
    · rw [if_pos q2, if_pos (by omega)]
    · rw [if_neg q2, if_neg (by omega)]
theorem own_fl0 (F : Nat → Int32) (g : Nat → Value) : ∀ j, g j = own_fl F 0 g j := fun j => by unfold own_fl; rw [if_neg (by omega)]
theorem own_fl_in {F : Nat → Int32} {i j : Nat} {g : Nat → Value} (h : j < i) : own_fl F i g j = .int (F j) := if_pos h
theorem own_fl_out {F : Nat → Int32} {i j : Nat} {g : Nat → Value} (h : ¬ j < i) : own_fl F i g j = g j := if_neg h

/-! single steps over own_Go -/
theorem own_s_iadd {p : Program} {e : Env} {below : List Frame} {T : State} {m : MethodId} {c : Code} {Φ : Outcome → State → Prop} {pc : Nat} {L : Array Slot} {S : List Value} (h : At T m c below) (hx : p.tables.exec = Jvm.exec) {x y : Int32} (hd : decode c.code pc = .ok (.iadd, 1)) (G : own_Go p e below T (mkF m (pc + 1) L (.int (x + y) :: S)) Φ) : own_Go p e below T (mkF m pc L (.int y :: .int x :: S)) Φ := own_by (fun t k => XS.iadd h hx rfl hd rfl k) G
theorem own_s_isub {p : Program} {e : Env} {below : List Frame} {T : State} {m : MethodId} {c : Code} {Φ : Outcome → State → Prop} {pc : Nat} {L : Array Slot} {S : List Value} (h : At T m c below) (hx : p.tables.exec = Jvm.exec) {x y : Int32} (hd : decode c.code pc = .ok (.isub, 1)) (G : own_Go p e below T (mkF m (pc + 1) L (.int (x - y) :: S)) Φ) : own_Go p e below T (mkF m pc L (.int y :: .int x :: S)) Φ := own_by (fun t k => XS.isub h hx rfl hd rfl k) G
theorem own_s_imul {p : Program} {e : Env} {below : List Frame} {T : State} {m : MethodId} {c : Code} {Φ : Outcome → State → Prop} {pc : Nat} {L : Array Slot} {S : List Value} (h : At T m c below) (hx : p.tables.exec = Jvm.exec) {x y : Int32} (hd : decode c.code pc = .ok (.imul, 1)) (G : own_Go p e below T (mkF m (pc + 1) L (.int (x * y) :: S)) Φ) : own_Go p e below T (mkF m pc L (.int y :: .int x :: S)) Φ := own_by (fun t k => XS.imul h hx rfl hd rfl k) G
theorem own_s_iand {p : Program} {e : Env} {below : List Frame} {T : State} {m : MethodId} {c : Code} {Φ : Outcome → State → Prop} {pc : Nat} {L : Array Slot} {S : List Value} (h : At T m c below) (hx : p.tables.exec = Jvm.exec) {x y : Int32} (hd : decode c.code pc = .ok (.iand, 1)) (G : own_Go p e below T (mkF m (pc + 1) L (.int (x &&& y) :: S)) Φ) : own_Go p e below T (mkF m pc L (.int y :: .int x :: S)) Φ := own_by (fun t k => XS.iand h hx rfl hd rfl k) G
theorem own_s_ior {p : Program} {e : Env} {below : List Frame} {T : State} {m : MethodId} {c : Code} {Φ : Outcome → State → Prop} {pc : Nat} {L : Array Slot} {S : List Value} (h : At T m c below) (hx : p.tables.exec = Jvm.exec) {x y : Int32} (hd : decode c.code pc = .ok (.ior, 1)) (G : own_Go p e below T (mkF m (pc + 1) L (.int (x ||| y) :: S)) Φ) : own_Go p e below T (mkF m pc L (.int y :: .int x :: S)) Φ := own_by (fun t k => XS.ior h hx rfl hd rfl k) G
theorem own_s_ixor {p : Program} {e : Env} {below : List Frame} {T : State} {m : MethodId} {c : Code} {Φ : Outcome → State → Prop} {pc : Nat} {L : Array Slot} {S : List Value} (h : At T m c below) (hx : p.tables.exec = Jvm.exec) {x y : Int32} (hd : decode c.code pc = .ok (.ixor, 1)) (G : own_Go p e below T (mkF m (pc + 1) L (.int (x ^^^ y) :: S)) Φ) : own_Go p e below T (mkF m pc L (.int y :: .int x :: S)) Φ := own_by (fun t k => XS.ixor h hx rfl hd rfl k) G
theorem own_s_ladd {p : Program} {e : Env} {below : List Frame} {T : State} {m : MethodId} {c : Code} {Φ : Outcome → State → Prop} {pc : Nat} {L : Array Slot} {S : List Value} (h : At T m c below) (hx : p.tables.exec = Jvm.exec) {x y : Int64} (hd : decode c.code pc = .ok (.ladd, 1)) (G : own_Go p e below T (mkF m (pc + 1) L (.long (x + y) :: S)) Φ) : own_Go p e below T (mkF m pc L (.long y :: .long x :: S)) Φ := own_by (fun t k => XS.ladd h hx rfl hd rfl k) G
theorem own_s_lsub {p : Program} {e : Env} {below : List Frame} {T : State} {m : MethodId} {c : Code} {Φ : Outcome → State → Prop} {pc : Nat} {L : Array Slot} {S : List Value} (h : At T m c below) (hx : p.tables.exec = Jvm.exec) {x y : Int64} (hd : decode c.code pc = .ok (.lsub, 1)) (G : own_Go p e below T (mkF m (pc + 1) L (.long (x - y) :: S)) Φ) : own_Go p e below T (mkF m pc L (.long y :: .long x :: S)) Φ := own_by (fun t k => XS.lsub h hx rfl hd rfl k) G
theorem own_s_lmul {p : Program} {e : Env} {below : List Frame} {T : State} {m : MethodId} {c : Code} {Φ : Outcome → State → Prop} {pc : Nat} {L : Array Slot} {S : List Value} (h : At T m c below) (hx : p.tables.exec = Jvm.exec) {x y : Int64} (hd : decode c.code pc = .ok (.lmul, 1)) (G : own_Go p e below T (mkF m (pc + 1) L (.long (x * y) :: S)) Φ) : own_Go p e below T (mkF m pc L (.long y :: .long x :: S)) Φ := own_by (fun t k => XS.lmul h hx rfl hd rfl k) G
theorem own_s_land {p : Program} {e : Env} {below : List Frame} {T : State} {m : MethodId} {c : Code} {Φ : Outcome → State → Prop} {pc : Nat} {L : Array Slot} {S : List Value} (h : At T m c below) (hx : p.tables.exec = Jvm.exec) {x y : Int64} (hd : decode c.code pc = .ok (.land, 1)) (G : own_Go p e below T (mkF m (pc + 1) L (.long (x &&& y) :: S)) Φ) : own_Go p e below T (mkF m pc L (.long y :: .long x :: S)) Φ := own_by (fun t k => XS.land h hx rfl hd rfl k) G
theorem own_s_lor {p : Program} {e : Env} {below : List Frame} {T : State} {m : MethodId} {c : Code} {Φ : Outcome → State → Prop} {pc : Nat} {L : Array Slot} {S : List Value} (h : At T m c below) (hx : p.tables.exec = Jvm.exec) {x y : Int64} (hd : decode c.code pc = .ok (.lor, 1)) (G : own_Go p e below T (mkF m (pc + 1) L (.long (x ||| y) :: S)) Φ) : own_Go p e below T (mkF m pc L (.long y :: .long x :: S)) Φ := own_by (fun t k => XS.lor h hx rfl hd rfl k) G
theorem own_s_lxor {p : Program} {e : Env} {below : List Frame} {T : State} {m : MethodId} {c : Code} {Φ : Outcome → State → Prop} {pc : Nat} {L : Array Slot} {S : List Value} (h : At T m c below) (hx : p.tables.exec = Jvm.exec) {x y : Int64} (hd : decode c.code pc = .ok (.lxor, 1)) (G : own_Go p e below T (mkF m (pc + 1) L (.long (x ^^^ y) :: S)) Φ) : own_Go p e below T (mkF m pc L (.long y :: .long x :: S)) Φ := own_by (fun t k => XS.lxor h hx rfl hd rfl k) G
theorem own_s_ishl {p : Program} {e : Env} {below : List Frame} {T : State} {m : MethodId} {c : Code} {Φ : Outcome → State → Prop} {pc : Nat} {L : Array Slot} {S : List Value} (h : At T m c below) (hx : p.tables.exec = Jvm.exec) {x y : Int32} (hd : decode c.code pc = .ok (.ishl, 1)) (G : own_Go p e below T (mkF m (pc + 1) L (.int (x <<< (y &&& 31)) :: S)) Φ) : own_Go p e below T (mkF m pc L (.int y :: .int x :: S)) Φ := own_by (fun t k => XS.ishl h hx rfl hd rfl k) G
theorem own_s_ishr {p : Program} {e : Env} {below : List Frame} {T : State} {m : MethodId} {c : Code} {Φ : Outcome → State → Prop} {pc : Nat} {L : Array Slot} {S : List Value} (h : At T m c below) (hx : p.tables.exec = Jvm.exec) {x y : Int32} (hd : decode c.code pc = .ok (.ishr, 1)) (G : own_Go p e below T (mkF m (pc + 1) L (.int (x >>> (y &&& 31)) :: S)) Φ) : own_Go p e below T (mkF m pc L (.int y :: .int x :: S)) Φ := own_by (fun t k => XS.ishr h hx rfl hd rfl k) G
theorem own_s_iushr {p : Program} {e : Env} {below : List Frame} {T : State} {m : MethodId} {c : Code} {Φ : Outcome → State → Prop} {pc : Nat} {L : Array Slot} {S : List Value} (h : At T m c below) (hx : p.tables.exec = Jvm.exec) {x y : Int32} (hd : decode c.code pc = .ok (.iushr, 1)) (G : own_Go p e below T (mkF m (pc + 1) L (.int ((x.toUInt32 >>> (y &&& 31).toUInt32).toInt32) :: S)) Φ) : own_Go p e below T (mkF m pc L (.int y :: .int x :: S)) Φ := own_by (fun t k => XS.iushr h hx rfl hd rfl k) G
theorem own_s_lshl {p : Program} {e : Env} {below : List Frame} {T : State} {m : MethodId} {c : Code} {Φ : Outcome → State → Prop} {pc : Nat} {L : Array Slot} {S : List Value} (h : At T m c below) (hx : p.tables.exec = Jvm.exec) {x : Int64} {y : Int32} (hd : decode c.code pc = .ok (.lshl, 1)) (G : own_Go p e below T (mkF m (pc + 1) L (.long (x <<< (y &&& 0x3f).toInt64) :: S)) Φ) : own_Go p e below T (mkF m pc L (.int y :: .long x :: S)) Φ := own_by (fun t k => XS.lshl h hx rfl hd rfl k) G
theorem own_s_lshr {p : Program} {e : Env} {below : List Frame} {T : State} {m : MethodId} {c : Code} {Φ : Outcome → State → Prop} {pc : Nat} {L : Array Slot} {S : List Value} (h : At T m c below) (hx : p.tables.exec = Jvm.exec) {x : Int64} {y : Int32} (hd : decode c.code pc = .ok (.lshr, 1)) (G : own_Go p e below T (mkF m (pc + 1) L (.long (x >>> (y &&& 0x3f).toInt64) :: S)) Φ) : own_Go p e below T (mkF m pc L (.int y :: .long x :: S)) Φ := own_by (fun t k => XS.lshr h hx rfl hd rfl k) G
theorem own_s_lushr {p : Program} {e : Env} {below : List Frame} {T : State} {m : MethodId} {c : Code} {Φ : Outcome → State → Prop} {pc : Nat} {L : Array Slot} {S : List Value} (h : At T m c below) (hx : p.tables.exec = Jvm.exec) {x : Int64} {y : Int32} (hd : decode c.code pc = .ok (.lushr, 1)) (G : own_Go p e below T (mkF m (pc + 1) L (.long ((x.toUInt64 >>> (y &&& 0x3f).toInt64.toUInt64).toInt64) :: S)) Φ) : own_Go p e below T (mkF m pc L (.int y :: .long x :: S)) Φ := own_by (fun t k => XS.lushr h hx rfl hd rfl k) G
theorem own_s_ineg {p : Program} {e : Env} {below : List Frame} {T : State} {m : MethodId} {c : Code} {Φ : Outcome → State → Prop} {pc : Nat} {L : Array Slot} {S : List Value} (h : At T m c below) (hx : p.tables.exec = Jvm.exec) {x : Int32} (hd : decode c.code pc = .ok (.ineg, 1)) (G : own_Go p e below T (mkF m (pc + 1) L (.int (-x) :: S)) Φ) : own_Go p e below T (mkF m pc L (.int x :: S)) Φ := own_by (fun t k => XS.ineg h hx rfl hd rfl k) G
theorem own_s_lneg {p : Program} {e : Env} {below : List Frame} {T : State} {m : MethodId} {c : Code} {Φ : Outcome → State → Prop} {pc : Nat} {L : Array Slot} {S : List Value} (h : At T m c below) (hx : p.tables.exec = Jvm.exec) {x : Int64} (hd : decode c.code pc = .ok (.lneg, 1)) (G : own_Go p e below T (mkF m (pc + 1) L (.long (-x) :: S)) Φ) : own_Go p e below T (mkF m pc L (.long x :: S)) Φ := own_by (fun t k => XS.lneg h hx rfl hd rfl k) G
theorem own_s_i2l {p : Program} {e : Env} {below : List Frame} {T : State} {m : MethodId} {c : Code} {Φ : Outcome → State → Prop} {pc : Nat} {L : Array Slot} {S : List Value} (h : At T m c below) (hx : p.tables.exec = Jvm.exec) {x : Int32} (hd : decode c.code pc = .ok (.i2l, 1)) (G : own_Go p e below T (mkF m (pc + 1) L (.long (x.toInt64) :: S)) Φ) : own_Go p e below T (mkF m pc L (.int x :: S)) Φ := own_by (fun t k => XS.i2l h hx rfl hd rfl k) G
theorem own_s_l2i {p : Program} {e : Env} {below : List Frame} {T : State} {m : MethodId} {c : Code} {Φ : Outcome → State → Prop} {pc : Nat} {L : Array Slot} {S : List Value} (h : At T m c below) (hx : p.tables.exec = Jvm.exec) {x : Int64} (hd : decode c.code pc = .ok (.l2i, 1)) (G : own_Go p e below T (mkF m (pc + 1) L (.int (x.toInt32) :: S)) Φ) : own_Go p e below T (mkF m pc L (.long x :: S)) Φ := own_by (fun t k => XS.l2i h hx rfl hd rfl k) G
theorem own_s_i2b {p : Program} {e : Env} {below : List Frame} {T : State} {m : MethodId} {c : Code} {Φ : Outcome → State → Prop} {pc : Nat} {L : Array Slot} {S : List Value} (h : At T m c below) (hx : p.tables.exec = Jvm.exec) {x : Int32} (hd : decode c.code pc = .ok (.i2b, 1)) (G : own_Go p e below T (mkF m (pc + 1) L (.int (x.toInt8.toInt32) :: S)) Φ) : own_Go p e below T (mkF m pc L (.int x :: S)) Φ := own_by (fun t k => XS.i2b h hx rfl hd rfl k) G
theorem own_s_i2s {p : Program} {e : Env} {below : List Frame} {T : State} {m : MethodId} {c : Code} {Φ : Outcome → State → Prop} {pc : Nat} {L : Array Slot} {S : List Value} (h : At T m c below) (hx : p.tables.exec = Jvm.exec) {x : Int32} (hd : decode c.code pc = .ok (.i2s, 1)) (G : own_Go p e below T (mkF m (pc + 1) L (.int (x.toInt16.toInt32) :: S)) Φ) : own_Go p e below T (mkF m pc L (.int x :: S)) Φ := own_by (fun t k => XS.i2s h hx rfl hd rfl k) G
theorem own_s_i2c {p : Program} {e : Env} {below : List Frame} {T : State} {m : MethodId} {c : Code} {Φ : Outcome → State → Prop} {pc : Nat} {L : Array Slot} {S : List Value} (h : At T m c below) (hx : p.tables.exec = Jvm.exec) {x : Int32} (hd : decode c.code pc = .ok (.i2c, 1)) (G : own_Go p e below T (mkF m (pc + 1) L (.int (x.toUInt32.toUInt16.toUInt32.toInt32) :: S)) Φ) : own_Go p e below T (mkF m pc L (.int x :: S)) Φ := own_by (fun t k => XS.i2c h hx rfl hd rfl k) G
theorem own_s_iloadN {p : Program} {e : Env} {below : List Frame} {T : State} {m : MethodId} {c : Code} {Φ : Outcome → State → Prop} {pc : Nat} {L : Array Slot} {S : List Value} (h : At T m c below) (hx : p.tables.exec = Jvm.exec) {i : Fin 4} {v : Int32} (hd : decode c.code pc = .ok (.iload_n i, 1)) (hl : L[i.val]? = some (.val (.int v))) (G : own_Go p e below T (mkF m (pc + 1) L (.int v :: S)) Φ) : own_Go p e below T (mkF m pc L S) Φ := own_by (fun t k => XS.iloadN h hx rfl hd hl k) G
theorem own_s_iload {p : Program} {e : Env} {below : List Frame} {T : State} {m : MethodId} {c : Code} {Φ : Outcome → State → Prop} {pc : Nat} {L : Array Slot} {S : List Value} (h : At T m c below) (hx : p.tables.exec = Jvm.exec) {i : Nat} {v : Int32} (hd : decode c.code pc = .ok (.iload i, 2)) (hl : L[i]? = some (.val (.int v))) (G : own_Go p e below T (mkF m (pc + 2) L (.int v :: S)) Φ) : own_Go p e below T (mkF m pc L S) Φ := own_by (fun t k => XS.iload h hx rfl hd hl k) G
theorem own_s_lloadN {p : Program} {e : Env} {below : List Frame} {T : State} {m : MethodId} {c : Code} {Φ : Outcome → State → Prop} {pc : Nat} {L : Array Slot} {S : List Value} (h : At T m c below) (hx : p.tables.exec = Jvm.exec) {i : Fin 4} {v : Int64} (hd : decode c.code pc = .ok (.lload_n i, 1)) (hl : L[i.val]? = some (.val (.long v))) (G : own_Go p e below T (mkF m (pc + 1) L (.long v :: S)) Φ) : own_Go p e below T (mkF m pc L S) Φ := own_by (fun t k => XS.lloadN h hx rfl hd hl k) G
theorem own_s_lload {p : Program} {e : Env} {below : List Frame} {T : State} {m : MethodId} {c : Code} {Φ : Outcome → State → Prop} {pc : Nat} {L : Array Slot} {S : List Value} (h : At T m c below) (hx : p.tables.exec = Jvm.exec) {i : Nat} {v : Int64} (hd : decode c.code pc = .ok (.lload i, 2)) (hl : L[i]? = some (.val (.long v))) (G : own_Go p e below T (mkF m (pc + 2) L (.long v :: S)) Φ) : own_Go p e below T (mkF m pc L S) Φ := own_by (fun t k => XS.lload h hx rfl hd hl k) G
theorem own_s_aloadN {p : Program} {e : Env} {below : List Frame} {T : State} {m : MethodId} {c : Code} {Φ : Outcome → State → Prop} {pc : Nat} {L : Array Slot} {S : List Value} (h : At T m c below) (hx : p.tables.exec = Jvm.exec) {i : Fin 4} {v : Value} (hd : decode c.code pc = .ok (.aload_n i, 1)) (hl : L[i.val]? = some (.val v)) (hv : v.isRef = true) (G : own_Go p e below T (mkF m (pc + 1) L (v :: S)) Φ) : own_Go p e below T (mkF m pc L S) Φ := own_by (fun t k => XS.aloadN h hx rfl hd hl hv k) G
theorem own_s_aload {p : Program} {e : Env} {below : List Frame} {T : State} {m : MethodId} {c : Code} {Φ : Outcome → State → Prop} {pc : Nat} {L : Array Slot} {S : List Value} (h : At T m c below) (hx : p.tables.exec = Jvm.exec) {i : Nat} {v : Value} (hd : decode c.code pc = .ok (.aload i, 2)) (hl : L[i]? = some (.val v)) (hv : v.isRef = true) (G : own_Go p e below T (mkF m (pc + 2) L (v :: S)) Φ) : own_Go p e below T (mkF m pc L S) Φ := own_by (fun t k => XS.aload h hx rfl hd hl hv k) G
theorem own_s_istoreN {p : Program} {e : Env} {below : List Frame} {T : State} {m : MethodId} {c : Code} {Φ : Outcome → State → Prop} {pc : Nat} {L : Array Slot} {S : List Value} (h : At T m c below) (hx : p.tables.exec = Jvm.exec) {i : Fin 4} {v : Int32} (L' : Array Slot) (hd : decode c.code pc = .ok (.istore_n i, 1)) (hl : storeLocals L i.val (.int v) = some L') (G : own_Go p e below T (mkF m (pc + 1) L' S) Φ) : own_Go p e below T (mkF m pc L (.int v :: S)) Φ := own_by (fun t k => XS.istoreN h hx rfl hd rfl hl k) G
theorem own_s_istore {p : Program} {e : Env} {below : List Frame} {T : State} {m : MethodId} {c : Code} {Φ : Outcome → State → Prop} {pc : Nat} {L : Array Slot} {S : List Value} (h : At T m c below) (hx : p.tables.exec = Jvm.exec) {i : Nat} {v : Int32} (L' : Array Slot) (hd : decode c.code pc = .ok (.istore i, 2)) (hl : storeLocals L i (.int v) = some L') (G : own_Go p e below T (mkF m (pc + 2) L' S) Φ) : own_Go p e below T (mkF m pc L (.int v :: S)) Φ := own_by (fun t k => XS.istore h hx rfl hd rfl hl k) G
theorem own_s_lstoreN {p : Program} {e : Env} {below : List Frame} {T : State} {m : MethodId} {c : Code} {Φ : Outcome → State → Prop} {pc : Nat} {L : Array Slot} {S : List Value} (h : At T m c below) (hx : p.tables.exec = Jvm.exec) {i : Fin 4} {v : Int64} (L' : Array Slot) (hd : decode c.code pc = .ok (.lstore_n i, 1)) (hl : storeLocals L i.val (.long v) = some L') (G : own_Go p e below T (mkF m (pc + 1) L' S) Φ) : own_Go p e below T (mkF m pc L (.long v :: S)) Φ := own_by (fun t k => XS.lstoreN h hx rfl hd rfl hl k) G
theorem own_s_lstore {p : Program} {e : Env} {below : List Frame} {T : State} {m : MethodId} {c : Code} {Φ : Outcome → State → Prop} {pc : Nat} {L : Array Slot} {S : List Value} (h : At T m c below) (hx : p.tables.exec = Jvm.exec) {i : Nat} {v : Int64} (L' : Array Slot) (hd : decode c.code pc = .ok (.lstore i, 2)) (hl : storeLocals L i (.long v) = some L') (G : own_Go p e below T (mkF m (pc + 2) L' S) Φ) : own_Go p e below T (mkF m pc L (.long v :: S)) Φ := own_by (fun t k => XS.lstore h hx rfl hd rfl hl k) G
theorem own_s_astoreN {p : Program} {e : Env} {below : List Frame} {T : State} {m : MethodId} {c : Code} {Φ : Outcome → State → Prop} {pc : Nat} {L : Array Slot} {S : List Value} (h : At T m c below) (hx : p.tables.exec = Jvm.exec) {i : Fin 4} {v : Value} (L' : Array Slot) (hd : decode c.code pc = .ok (.astore_n i, 1)) (hv : v.isRef = true) (hl : storeLocals L i.val v = some L') (G : own_Go p e below T (mkF m (pc + 1) L' S) Φ) : own_Go p e below T (mkF m pc L (v :: S)) Φ := own_by (fun t k => XS.astoreN h hx rfl hd rfl hv hl k) G
theorem own_s_astore {p : Program} {e : Env} {below : List Frame} {T : State} {m : MethodId} {c : Code} {Φ : Outcome → State → Prop} {pc : Nat} {L : Array Slot} {S : List Value} (h : At T m c below) (hx : p.tables.exec = Jvm.exec) {i : Nat} {v : Value} (L' : Array Slot) (hd : decode c.code pc = .ok (.astore i, 2)) (hv : v.isRef = true) (hl : storeLocals L i v = some L') (G : own_Go p e below T (mkF m (pc + 2) L' S) Φ) : own_Go p e below T (mkF m pc L (v :: S)) Φ := own_by (fun t k => XS.astore h hx rfl hd rfl hv hl k) G
theorem own_s_iconst {p : Program} {e : Env} {below : List Frame} {T : State} {m : MethodId} {c : Code} {Φ : Outcome → State → Prop} {pc : Nat} {L : Array Slot} {S : List Value} (h : At T m c below) (hx : p.tables.exec = Jvm.exec) {i : Int} (v : Int32) (hd : decode c.code pc = .ok (.iconst i, 1)) (hv : Int32.ofInt i = v) (G : own_Go p e below T (mkF m (pc + 1) L (.int v :: S)) Φ) : own_Go p e below T (mkF m pc L S) Φ := own_by (fun t k => XS.iconst h hx rfl hd (by rw [hv]; exact k)) G
theorem own_s_bipush {p : Program} {e : Env} {below : List Frame} {T : State} {m : MethodId} {c : Code} {Φ : Outcome → State → Prop} {pc : Nat} {L : Array Slot} {S : List Value} (h : At T m c below) (hx : p.tables.exec = Jvm.exec) {i : Int} (v : Int32) (hd : decode c.code pc = .ok (.bipush i, 2)) (hv : (Int8.ofInt i).toInt32 = v) (G : own_Go p e below T (mkF m (pc + 2) L (.int v :: S)) Φ) : own_Go p e below T (mkF m pc L S) Φ := own_by (fun t k => XS.bipush h hx rfl hd (by rw [hv]; exact k)) G
theorem own_s_sipush {p : Program} {e : Env} {below : List Frame} {T : State} {m : MethodId} {c : Code} {Φ : Outcome → State → Prop} {pc : Nat} {L : Array Slot} {S : List Value} (h : At T m c below) (hx : p.tables.exec = Jvm.exec) {i : Int} (v : Int32) (hd : decode c.code pc = .ok (.sipush i, 3)) (hv : (Int16.ofInt i).toInt32 = v) (G : own_Go p e below T (mkF m (pc + 3) L (.int v :: S)) Φ) : own_Go p e below T (mkF m pc L S) Φ := own_by (fun t k => XS.sipush h hx rfl hd (by rw [hv]; exact k)) G
theorem own_s_lconst {p : Program} {e : Env} {below : List Frame} {T : State} {m : MethodId} {c : Code} {Φ : Outcome → State → Prop} {pc : Nat} {L : Array Slot} {S : List Value} (h : At T m c below) (hx : p.tables.exec = Jvm.exec) {i : Fin 2} (v : Int64) (hd : decode c.code pc = .ok (.lconst i, 1)) (hv : Int64.ofNat i = v) (G : own_Go p e below T (mkF m (pc + 1) L (.long v :: S)) Φ) : own_Go p e below T (mkF m pc L S) Φ := own_by (fun t k => XS.lconst h hx rfl hd (by rw [hv]; exact k)) G
theorem own_s_goto {p : Program} {e : Env} {below : List Frame} {T : State} {m : MethodId} {c : Code} {Φ : Outcome → State → Prop} {pc : Nat} {L : Array Slot} {S : List Value} (h : At T m c below) (hx : p.tables.exec = Jvm.exec) {o : Int} (pc' : Nat) (hd : decode c.code pc = .ok (.goto o, 3)) (ho : 0 ≤ (pc : Int) + o) (hp : ((pc : Int) + o).toNat = pc') (G : own_Go p e below T (mkF m pc' L S) Φ) : own_Go p e below T (mkF m pc L S) Φ := own_by (fun t k => XS.goto h hx rfl rfl hd ho hp k) G
theorem own_s_ifYes {p : Program} {e : Env} {below : List Frame} {T : State} {m : MethodId} {c : Code} {Φ : Outcome → State → Prop} {pc : Nat} {L : Array Slot} {S : List Value} (h : At T m c below) (hx : p.tables.exec = Jvm.exec) {cd : ClassFile.Cond} {x : Int32} {o : Int} (pc' : Nat) (hd : decode c.code pc = .ok (.ifCond cd o, 3)) (hc : ifCond.holds cd x = true) (ho : 0 ≤ (pc : Int) + o) (hp : ((pc : Int) + o).toNat = pc') (G : own_Go p e below T (mkF m pc' L S) Φ) : own_Go p e below T (mkF m pc L (.int x :: S)) Φ := own_by (fun t k => XS.ifYes h hx rfl rfl hd rfl hc ho hp k) G
theorem own_s_ifNo {p : Program} {e : Env} {below : List Frame} {T : State} {m : MethodId} {c : Code} {Φ : Outcome → State → Prop} {pc : Nat} {L : Array Slot} {S : List Value} (h : At T m c below) (hx : p.tables.exec = Jvm.exec) {cd : ClassFile.Cond} {x : Int32} {o : Int} (hd : decode c.code pc = .ok (.ifCond cd o, 3)) (hc : ifCond.holds cd x = false) (G : own_Go p e below T (mkF m (pc + 3) L S) Φ) : own_Go p e below T (mkF m pc L (.int x :: S)) Φ := own_by (fun t k => XS.ifNo h hx rfl hd rfl hc k) G
theorem own_s_icmpYes {p : Program} {e : Env} {below : List Frame} {T : State} {m : MethodId} {c : Code} {Φ : Outcome → State → Prop} {pc : Nat} {L : Array Slot} {S : List Value} (h : At T m c below) (hx : p.tables.exec = Jvm.exec) {cd : ClassFile.Cond} {x y : Int32} {o : Int} (pc' : Nat) (hd : decode c.code pc = .ok (.if_icmp cd o, 3)) (hc : if_icmp.holds cd x y = true) (ho : 0 ≤ (pc : Int) + o) (hp : ((pc : Int) + o).toNat = pc') (G : own_Go p e below T (mkF m pc' L S) Φ) : own_Go p e below T (mkF m pc L (.int y :: .int x :: S)) Φ := own_by (fun t k => XS.icmpYes h hx rfl rfl hd rfl hc ho hp k) G
theorem own_s_icmpNo {p : Program} {e : Env} {below : List Frame} {T : State} {m : MethodId} {c : Code} {Φ : Outcome → State → Prop} {pc : Nat} {L : Array Slot} {S : List Value} (h : At T m c below) (hx : p.tables.exec = Jvm.exec) {cd : ClassFile.Cond} {x y : Int32} {o : Int} (hd : decode c.code pc = .ok (.if_icmp cd o, 3)) (hc : if_icmp.holds cd x y = false) (G : own_Go p e below T (mkF m (pc + 3) L S) Φ) : own_Go p e below T (mkF m pc L (.int y :: .int x :: S)) Φ := own_by (fun t k => XS.icmpNo h hx rfl hd rfl hc k) G
theorem own_s_lcmp {p : Program} {e : Env} {below : List Frame} {T : State} {m : MethodId} {c : Code} {Φ : Outcome → State → Prop} {pc : Nat} {L : Array Slot} {S : List Value} (h : At T m c below) (hx : p.tables.exec = Jvm.exec) {x y : Int64} (hd : decode c.code pc = .ok (.lcmp, 1)) (G : own_Go p e below T (mkF m (pc + 1) L (.int (Jvm.Free.XT.cmpL x y) :: S)) Φ) : own_Go p e below T (mkF m pc L (.long y :: .long x :: S)) Φ := own_by (fun t k => Jvm.Free.XT.lcmp h hx rfl hd rfl k) G
theorem own_s_dup {p : Program} {e : Env} {below : List Frame} {T : State} {m : MethodId} {c : Code} {Φ : Outcome → State → Prop} {pc : Nat} {L : Array Slot} {S : List Value} (h : At T m c below) (hx : p.tables.exec = Jvm.exec) {x : Value} (hd : decode c.code pc = .ok (.dup, 1)) (hc : x.category = 1) (G : own_Go p e below T (mkF m (pc + 1) L (x :: x :: S)) Φ) : own_Go p e below T (mkF m pc L (x :: S)) Φ := own_by (fun t k => XS.dup h hx rfl hd rfl hc k) G
theorem own_s_pop {p : Program} {e : Env} {below : List Frame} {T : State} {m : MethodId} {c : Code} {Φ : Outcome → State → Prop} {pc : Nat} {L : Array Slot} {S : List Value} (h : At T m c below) (hx : p.tables.exec = Jvm.exec) {x : Value} (hd : decode c.code pc = .ok (.pop, 1)) (hc : x.category = 1) (G : own_Go p e below T (mkF m (pc + 1) L S) Φ) : own_Go p e below T (mkF m pc L (x :: S)) Φ := own_by (fun t k => XS.pop h hx rfl hd rfl hc k) G

theorem own_char {x : Int32} (h0 : 0 ≤ x.toInt) (h1 : x.toInt ≤ 65535) : nar .char x.toUInt32.toUInt16.toUInt32.toInt32 = x := by
  have e1 : x.toInt = x.toBitVec.toInt := rfl
  have hb := x.toBitVec.isLt
  have hn : x.toBitVec.toNat < 65536 := by rw [BitVec.toInt_eq_toNat_cond] at e1; split at e1 <;> omega
  have e2 : x.toUInt32.toUInt16.toUInt32.toInt32 = x := by
    apply Int32.toBitVec_inj.mp
    apply BitVec.eq_of_toNat_eq
    simp only [UInt32.toBitVec_toInt32, UInt16.toBitVec_toUInt32, UInt32.toBitVec_toUInt16, Int32.toBitVec_toUInt32]
    simp
    omega
  show x.toUInt32.toUInt16.toUInt32.toInt32.toUInt32.toUInt16.toUInt32.toInt32 = x
  rw [e2, e2]
theorem own_d2_0 : decode prog_20_method_1_code 0 = .ok (.aload_n 0, 1) := by decide +kernel
theorem own_d2_1 : decode prog_20_method_1_code 1 = .ok (.invokespecial 3, 3) := by decide +kernel
theorem own_d2_4 : decode prog_20_method_1_code 4 = .ok (.iload_n 1, 1) := by decide +kernel
theorem own_d2_5 : decode prog_20_method_1_code 5 = .ok (.ldc 11, 2) := by decide +kernel
theorem own_d2_7 : decode prog_20_method_1_code 7 = .ok (.if_icmp .gt 13, 3) := by decide +kernel
theorem own_d2_10 : decode prog_20_method_1_code 10 = .ok (.aload_n 0, 1) := by decide +kernel
theorem own_d2_11 : decode prog_20_method_1_code 11 = .ok (.iload_n 2, 1) := by decide +kernel
theorem own_d2_12 : decode prog_20_method_1_code 12 = .ok (.newarray .char, 2) := by decide +kernel
theorem own_d2_14 : decode prog_20_method_1_code 14 = .ok (.putfield 12, 3) := by decide +kernel
theorem own_d2_17 : decode prog_20_method_1_code 17 = .ok (.goto 10, 3) := by decide +kernel
theorem own_d2_20 : decode prog_20_method_1_code 20 = .ok (.aload_n 0, 1) := by decide +kernel
theorem own_d2_21 : decode prog_20_method_1_code 21 = .ok (.iload_n 2, 1) := by decide +kernel
theorem own_d2_22 : decode prog_20_method_1_code 22 = .ok (.newarray .int, 2) := by decide +kernel
theorem own_d2_24 : decode prog_20_method_1_code 24 = .ok (.putfield 16, 3) := by decide +kernel
theorem own_d2_27 : decode prog_20_method_1_code 27 = .ok (.return_, 1) := by decide +kernel
theorem own_pn_SlotArray : plainName "com/example/tallymark/tallymark/SlotArray" = true := by first | (simp [plainName, overriddenIn]; done) | decide +kernel
theorem own_ef2 (m : MethodId) (this : Addr) (p1 : Int32) (p2 : Int32) : entryFrame m #[(.ref this), (.int p1), (.int p2)] 3 = mkF m 0 #[.val (.ref this), .val (.int p1), .val (.int p2)] [] := by first | (simp [entryFrame, mkF, argsToLocals, Value.category]; done) | rfl
def own_q_own_inin (Z : State) (this : Addr) (p1 : Int32) (p2 : Int32) (n : Nat) (h0 : Heap) (n0 : Nat) (v : Option Value) (h : Heap) (L : List Loc) : Prop := v = none ∧ Fr n0 L ∧ Keep h0 h [this] ∧ ∃ a : Addr, n0 ≤ a ∧ this ≠ a ∧ Fld Z h this "com/example/tallymark/tallymark/SlotArray" "narrow" "[C" (.ref a) ∧ own_Av Z h a .char n (fun _ => (.int (0 : Int32)))
set_option maxRecDepth 65536 in
set_option maxHeartbeats 40000000 in
theorem own_inin (l : Launch) (Z : State) (a0 : Array Value) (hw : ∀ d ∈ tables_1, d.before a0 Z = true) (ws : List Jvm.Cond) (this : Addr) (p1 : Int32) (p2 : Int32) (n : Nat) (h0 : Heap) (n0 : Nat) (Z0 : n0 ≤ h0.size) (hm : ¬ (65535 : Int32) < p1) (hn : p2.toNatClampNeg = n) (hneg : ¬ p2 < 0) (hle : n ≤ 8) (E_this : Exa Z h0 this "com/example/tallymark/tallymark/SlotArray") (F_this_narrow : Fld Z h0 this "com/example/tallymark/tallymark/SlotArray" "narrow" "[C" .null) (F_this_wide : Fld Z h0 this "com/example/tallymark/tallymark/SlotArray" "wide" "[I" .null) (ge_this : n0 ≤ this) :
    MetFree l (⟨"com/example/tallymark/tallymark/SlotArray", "<init>", "(II)V"⟩ : MethodName) (head1 (Jvm.Cond.code (⟨"com/example/tallymark/tallymark/SlotArray", "<init>", "(II)V"⟩ : MethodName) prog_20_method_1_code 3 none :: ws) ({ frames := 1, cells := 1, slots := 8, locals := 12 } : Room)) (fun a U => a = #[(.ref this), (.int p1), (.int p2)] ∧ Z.Warmed39 U.vm ∧ U.heap = h0) (fun _ _ _ _ _ => True) (fun _ U o U' => ∃ v L, o = .returned v ∧ own_q_own_inin Z this p1 p2 n h0 n0 v U'.heap L ∧ FrameEnd U o U' L ({ frames := 1, cells := 1, slots := 8, locals := 12 } : Room).cells ({ frames := 1, cells := 1, slots := 8, locals := 12 } : Room).slots) := by
  refine MetFree.of_bodySF (plainFor_of_name own_pn_SlotArray) hisR ?_
  intro p e s m args below meth c T0 Bd hml0 hP hK
  obtain ⟨rfl, hZ, hh⟩ := hP
  have hx := Bd.exec
  have hby := Bd.bytes
  have hml : c.maxLocals = 3 := hml0
  have hown : s.vm.findClass "com/example/tallymark/tallymark/SlotArray" = some m.cls := findClass_of_methodNamed Bd.named
  have hnm := (name_of_methodNamed Bd.named Bd.method).1
  have hret : meth.sig.returnType = none := Bd.returns
  have hlk : meth.locks = false := BodyLoose.notSynchronized Bd
  have X0 : Stand p l e ({ frames := 1, cells := 1, slots := 8, locals := 12 } : Room) s m #[(.ref this), (.int p1), (.int p2)] below meth c T0 [] 0 0 := Stand.of_body Bd
  have e0 : T0.heap = h0 := by rw [← hh, Bd.state]; rfl
  have N0 := Fr.nil n0
  refine own_start (own_ef2 m this p1 p2) (Q := fun (v : Option Value) (h : Heap) (L : List Loc) => v = none ∧ Fr n0 L ∧ Keep h0 h [this] ∧ ∃ a : Addr, n0 ≤ a ∧ this ≠ a ∧ Fld Z h this "com/example/tallymark/tallymark/SlotArray" "narrow" "[C" (.ref a) ∧ own_Av Z h a .char n (fun _ => (.int (0 : Int32)))) (k := 1) (j := 8) ?_
  show own_Go p e below T0 (mkF m 0 #[.val (.ref this), .val (.int p1), .val (.int p2)] []) _
  have K0 := Keep.refl h0 [this]
  refine own_s_aloadN X0.here hx (hb hby own_d2_0) rfl rfl ?_
  obtain ⟨T1, X1, e1, st1⟩ := initO X0 hx hZ hown (hw _ (List.mem_of_getElem? (i := 11) rfl)) (hw _ (List.mem_of_getElem? (i := 12) rfl)) (hw _ (List.mem_of_getElem? (i := 13) rfl)) e0 (g := (mkF m 1 #[.val (.ref this), .val (.int p1), .val (.int p2)] [(.ref this)])) rfl (by rw [hml]; rfl) rfl (hb hby own_d2_1) (by decide) (W := 0) (by show 2 * 0 + _ ≤ _; exact Nat.le_of_eq rfl) (by decide)
  refine own_by st1 ?_
  show own_Go p e below T1 (mkF m 4 #[.val (.ref this), .val (.int p1), .val (.int p2)] []) _
  refine own_s_iloadN X1.here hx (hb hby own_d2_4) rfl ?_
  refine own_by (fun tq_ kq_ => X1.ldcInt hx hown (mvT hZ (hw _ (List.mem_of_getElem? (i := 14) rfl))) (g := (mkF m 5 #[.val (.ref this), .val (.int p1), .val (.int p2)] [(.int p1)])) rfl (hb hby own_d2_5) tq_ kq_) ?_
  show own_Go p e below T1 (mkF m 7 #[.val (.ref this), .val (.int p1), .val (.int p2)] [(.int (65535 : Int32)), (.int p1)]) _
  refine own_s_icmpNo X1.here hx (hb hby own_d2_7) (Jvm.Free.XT.ii_gt_f hm) ?_
  refine own_s_aloadN X1.here hx (hb hby own_d2_10) rfl rfl ?_
  refine own_s_iloadN X1.here hx (hb hby own_d2_11) rfl ?_
  obtain ⟨T2, h2, k2, X2, e2, E2, A2, st2⟩ := newP X1 hx hZ (hw _ (List.mem_of_getElem? (i := 15) rfl)) e1 (g := (mkF m 12 #[.val (.ref this), .val (.int p1), .val (.int p2)] [(.int p2), (.ref this)])) rfl (hb hby own_d2_12) rfl hneg (cap := 8) (by rw [hn]; exact hle) (by decide) (by decide) (by decide)
  obtain ⟨b2, g2⟩ : ∃ z, z = h0.size := ⟨_, rfl⟩
  rw [← g2] at A2 st2
  have ge_b2 : n0 ≤ b2 := Nat.le_trans Z0 (Nat.le_of_eq g2.symm)
  have sz_b2 : h0.size ≤ b2 := Nat.le_trans K0.1 (Nat.le_of_eq g2.symm)
  have ne_this_b2 : this ≠ b2 := Nat.ne_of_lt (Nat.lt_of_lt_of_le E_this.lt (Nat.le_of_eq g2.symm))
  have f3 := E_this.ext E2
  have f4 := F_this_narrow.ext E2
  have f5 := F_this_wide.ext E2
  have SZ2 : n0 ≤ h2.size := Nat.le_trans Z0 E2.1
  have K2 := K0.ext E2
  have f6 : own_Av Z h2 b2 .char n (fun _ => (.int (0 : Int32))) := own_Av.ofnew A2 hn rfl
  refine own_by st2 ?_
  show own_Go p e below T2 (mkF m 14 #[.val (.ref this), .val (.int p1), .val (.int p2)] [(.ref b2), (.ref this)]) _
  obtain ⟨T7, h7, X7, e7, W7, st7⟩ := putF X2 hx hZ hown (host := "") (Or.inl (hw _ (List.mem_of_getElem? (i := 16) rfl))) Via.refl e2 f4 f3 (Or.inl (hw _ (List.mem_of_getElem? (i := 17) rfl))) (hw _ (List.mem_of_getElem? (i := 6) rfl)) (ty := (.array .char)) (by decide) rfl rfl (g := (mkF m 14 #[.val (.ref this), .val (.int p1), .val (.int p2)] [(.ref b2), (.ref this)])) rfl rfl (hb hby own_d2_14)
  have fw7 := f4.same W7
  have f8 := f3.wr W7
  have f9 := f5.other W7 (Or.inr (slot_ne (Or.inl (hw _ (List.mem_of_getElem? (i := 35) rfl))) (Or.inl (hw _ (List.mem_of_getElem? (i := 17) rfl))) (by decide) (t := (.array .int)) (t' := (.array .char)) (by decide) (by decide)))
  have f10 := f6.other W7 (Ne.symm ne_this_b2)
  have N7 := Fr.snoc X7 N0 ge_this
  have SZ7 : n0 ≤ h7.size := by rw [W7.size]; exact SZ2
  have K7 := K2.wr W7 (Or.inl (List.mem_of_getElem? (i := 0) rfl))
  refine own_by st7 ?_
  show own_Go p e below T7 (mkF m 17 #[.val (.ref this), .val (.int p1), .val (.int p2)] []) _
  refine own_s_goto X7.here hx 27 (hb hby own_d2_17) (by decide) (by decide) ?_
  refine own_retV X7 hx hret hlk (hb hby own_d2_27) (by decide) (by decide) ?_
  rw [e7]
  exact ⟨rfl, N7, K7, b2, ge_b2, ne_this_b2, fw7, f10⟩
theorem own_d5_0 : decode prog_20_method_3_code 0 = .ok (.aload_n 0, 1) := by decide +kernel
theorem own_d5_1 : decode prog_20_method_3_code 1 = .ok (.getfield 12, 3) := by decide +kernel
theorem own_d5_4 : decode prog_20_method_3_code 4 = .ok (.ifnull 12, 3) := by decide +kernel
theorem own_d5_7 : decode prog_20_method_3_code 7 = .ok (.aload_n 0, 1) := by decide +kernel
theorem own_d5_8 : decode prog_20_method_3_code 8 = .ok (.getfield 12, 3) := by decide +kernel
theorem own_d5_11 : decode prog_20_method_3_code 11 = .ok (.iload_n 1, 1) := by decide +kernel
theorem own_d5_12 : decode prog_20_method_3_code 12 = .ok (.caload, 1) := by decide +kernel
theorem own_d5_13 : decode prog_20_method_3_code 13 = .ok (.goto 9, 3) := by decide +kernel
theorem own_d5_16 : decode prog_20_method_3_code 16 = .ok (.aload_n 0, 1) := by decide +kernel
theorem own_d5_17 : decode prog_20_method_3_code 17 = .ok (.getfield 16, 3) := by decide +kernel
theorem own_d5_20 : decode prog_20_method_3_code 20 = .ok (.iload_n 1, 1) := by decide +kernel
theorem own_d5_21 : decode prog_20_method_3_code 21 = .ok (.iaload, 1) := by decide +kernel
theorem own_d5_22 : decode prog_20_method_3_code 22 = .ok (.iconst 1, 1) := by decide +kernel
theorem own_d5_23 : decode prog_20_method_3_code 23 = .ok (.isub, 1) := by decide +kernel
theorem own_d5_24 : decode prog_20_method_3_code 24 = .ok (.ireturn, 1) := by decide +kernel
theorem own_ef5 (m : MethodId) (this : Addr) (p1 : Int32) : entryFrame m #[(.ref this), (.int p1)] 2 = mkF m 0 #[.val (.ref this), .val (.int p1)] [] := by first | (simp [entryFrame, mkF, argsToLocals, Value.category]; done) | rfl
def own_q_own_getn (Z : State) (this : Addr) (p1 : Int32) (a : Addr) (n k : Nat) (f : Nat → Value) (z : Int32) (h0 : Heap) (n0 : Nat) (v : Option Value) (h : Heap) (L : List Loc) : Prop := v = some (.int (z - (1 : Int32))) ∧ Fr n0 L ∧ h = h0
set_option maxRecDepth 65536 in
set_option maxHeartbeats 40000000 in
theorem own_getn (l : Launch) (Z : State) (a0 : Array Value) (hw : ∀ d ∈ tables_1, d.before a0 Z = true) (ws : List Jvm.Cond) (this : Addr) (p1 : Int32) (a : Addr) (n k : Nat) (f : Nat → Value) (z : Int32) (h0 : Heap) (n0 : Nat) (Z0 : n0 ≤ h0.size) (hj : own_At p1 k) (hk : k < n) (hv : f k = .int z) (F_this_narrow : Fld Z h0 this "com/example/tallymark/tallymark/SlotArray" "narrow" "[C" (.ref a)) (A_a : own_Av Z h0 a .char n f) :
    MetFree l (⟨"com/example/tallymark/tallymark/SlotArray", "get", "(I)I"⟩ : MethodName) (head1 (Jvm.Cond.code (⟨"com/example/tallymark/tallymark/SlotArray", "get", "(I)I"⟩ : MethodName) prog_20_method_3_code 2 (some .int) :: ws) ({ frames := 0, cells := 0, slots := 0, locals := 0 } : Room)) (fun a U => a = #[(.ref this), (.int p1)] ∧ Z.Warmed39 U.vm ∧ U.heap = h0) (fun _ _ _ _ _ => True) (fun _ U o U' => ∃ v L, o = .returned v ∧ own_q_own_getn Z this p1 a n k f z h0 n0 v U'.heap L ∧ FrameEnd U o U' L ({ frames := 0, cells := 0, slots := 0, locals := 0 } : Room).cells ({ frames := 0, cells := 0, slots := 0, locals := 0 } : Room).slots) := by
  refine MetFree.of_bodySF (plainFor_of_name own_pn_SlotArray) hisR ?_
  intro p e s m args below meth c T0 Bd hml0 hP hK
  obtain ⟨rfl, hZ, hh⟩ := hP
  have hx := Bd.exec
  have hby := Bd.bytes
  have hml : c.maxLocals = 2 := hml0
  have hown : s.vm.findClass "com/example/tallymark/tallymark/SlotArray" = some m.cls := findClass_of_methodNamed Bd.named
  have hnm := (name_of_methodNamed Bd.named Bd.method).1
  have hret : meth.sig.returnType = (some .int) := Bd.returns
  have hlk : meth.locks = false := BodyLoose.notSynchronized Bd
  have X0 : Stand p l e ({ frames := 0, cells := 0, slots := 0, locals := 0 } : Room) s m #[(.ref this), (.int p1)] below meth c T0 [] 0 0 := Stand.of_body Bd
  have e0 : T0.heap = h0 := by rw [← hh, Bd.state]; rfl
  have N0 := Fr.nil n0
  refine own_start (own_ef5 m this p1) (Q := fun (v : Option Value) (h : Heap) (L : List Loc) => v = some (.int (z - (1 : Int32))) ∧ Fr n0 L ∧ h = h0) (k := 0) (j := 0) ?_
  show own_Go p e below T0 (mkF m 0 #[.val (.ref this), .val (.int p1)] []) _
  refine own_s_aloadN X0.here hx (hb hby own_d5_0) rfl rfl ?_
  obtain ⟨T11, X11, e11, st11⟩ := getF X0 hx hZ hown (host := "") (Or.inl (hw _ (List.mem_of_getElem? (i := 16) rfl))) Via.refl e0 F_this_narrow (g := (mkF m 1 #[.val (.ref this), .val (.int p1)] [(.ref this)])) rfl rfl (hb hby own_d5_1)
  refine own_by st11 ?_
  show own_Go p e below T11 (mkF m 4 #[.val (.ref this), .val (.int p1)] [(.ref a)]) _
  refine own_by (fun tq_ kq_ => XS.ifnullNo X11.here hx rfl (hb hby own_d5_4) rfl kq_) ?_
  show own_Go p e below T11 (mkF m 7 #[.val (.ref this), .val (.int p1)] []) _
  refine own_s_aloadN X11.here hx (hb hby own_d5_7) rfl rfl ?_
  obtain ⟨T12, X12, e12, st12⟩ := getF X11 hx hZ hown (host := "") (Or.inl (hw _ (List.mem_of_getElem? (i := 16) rfl))) Via.refl e11 F_this_narrow (g := (mkF m 8 #[.val (.ref this), .val (.int p1)] [(.ref this)])) rfl rfl (hb hby own_d5_8)
  refine own_by st12 ?_
  show own_Go p e below T12 (mkF m 11 #[.val (.ref this), .val (.int p1)] [(.ref a)]) _
  refine own_s_iloadN X12.here hx (hb hby own_d5_11) rfl ?_
  refine own_by (fun tq_ kq_ => own_ldC X12 hx hZ e12 A_a (k := k) (v := (.int z)) hj hk hv (g := (mkF m 12 #[.val (.ref this), .val (.int p1)] [(.int p1), (.ref a)])) rfl rfl (hb hby own_d5_12) tq_ kq_) ?_
  show own_Go p e below T12 (mkF m 13 #[.val (.ref this), .val (.int p1)] [(.int z)]) _
  refine own_s_goto X12.here hx 22 (hb hby own_d5_13) (by decide) (by decide) ?_
  refine own_s_iconst X12.here hx (1 : Int32) (hb hby own_d5_22) rfl ?_
  refine own_s_isub X12.here hx (hb hby own_d5_23) ?_
  refine own_retI X12 hx hret hlk (hb hby own_d5_24) (by decide) (by decide) ?_
  exact ⟨rfl, N0, e12⟩
theorem own_d4_0 : decode prog_20_method_4_code 0 = .ok (.aload_n 0, 1) := by decide +kernel
theorem own_d4_1 : decode prog_20_method_4_code 1 = .ok (.getfield 12, 3) := by decide +kernel
theorem own_d4_4 : decode prog_20_method_4_code 4 = .ok (.ifnull 16, 3) := by decide +kernel
theorem own_d4_7 : decode prog_20_method_4_code 7 = .ok (.aload_n 0, 1) := by decide +kernel
theorem own_d4_8 : decode prog_20_method_4_code 8 = .ok (.getfield 12, 3) := by decide +kernel
theorem own_d4_11 : decode prog_20_method_4_code 11 = .ok (.iload_n 1, 1) := by decide +kernel
theorem own_d4_12 : decode prog_20_method_4_code 12 = .ok (.iload_n 2, 1) := by decide +kernel
theorem own_d4_13 : decode prog_20_method_4_code 13 = .ok (.iconst 1, 1) := by decide +kernel
theorem own_d4_14 : decode prog_20_method_4_code 14 = .ok (.iadd, 1) := by decide +kernel
theorem own_d4_15 : decode prog_20_method_4_code 15 = .ok (.i2c, 1) := by decide +kernel
theorem own_d4_16 : decode prog_20_method_4_code 16 = .ok (.castore, 1) := by decide +kernel
theorem own_d4_17 : decode prog_20_method_4_code 17 = .ok (.goto 12, 3) := by decide +kernel
theorem own_d4_20 : decode prog_20_method_4_code 20 = .ok (.aload_n 0, 1) := by decide +kernel
theorem own_d4_21 : decode prog_20_method_4_code 21 = .ok (.getfield 16, 3) := by decide +kernel
theorem own_d4_24 : decode prog_20_method_4_code 24 = .ok (.iload_n 1, 1) := by decide +kernel
theorem own_d4_25 : decode prog_20_method_4_code 25 = .ok (.iload_n 2, 1) := by decide +kernel
theorem own_d4_26 : decode prog_20_method_4_code 26 = .ok (.iconst 1, 1) := by decide +kernel
theorem own_d4_27 : decode prog_20_method_4_code 27 = .ok (.iadd, 1) := by decide +kernel
theorem own_d4_28 : decode prog_20_method_4_code 28 = .ok (.iastore, 1) := by decide +kernel
theorem own_d4_29 : decode prog_20_method_4_code 29 = .ok (.return_, 1) := by decide +kernel
theorem own_ef4 (m : MethodId) (this : Addr) (p1 : Int32) (p2 : Int32) : entryFrame m #[(.ref this), (.int p1), (.int p2)] 3 = mkF m 0 #[.val (.ref this), .val (.int p1), .val (.int p2)] [] := by first | (simp [entryFrame, mkF, argsToLocals, Value.category]; done) | rfl
def own_q_own_setn (Z : State) (this : Addr) (p1 : Int32) (p2 : Int32) (a : Addr) (n k : Nat) (f : Nat → Value) (h0 : Heap) (n0 : Nat) (v : Option Value) (h : Heap) (L : List Loc) : Prop := v = none ∧ Fr n0 L ∧ Keep h0 h [a] ∧ own_Av Z h a .char n (own_upd f k (.int (p2 + (1 : Int32))))
set_option maxRecDepth 65536 in
set_option maxHeartbeats 40000000 in
theorem own_setn (l : Launch) (Z : State) (a0 : Array Value) (hw : ∀ d ∈ tables_1, d.before a0 Z = true) (ws : List Jvm.Cond) (this : Addr) (p1 : Int32) (p2 : Int32) (a : Addr) (n k : Nat) (f : Nat → Value) (h0 : Heap) (n0 : Nat) (Z0 : n0 ≤ h0.size) (hj : own_At p1 k) (hk : k < n) (hnar : nar .char ((p2 + (1 : Int32)).toUInt32.toUInt16.toUInt32.toInt32) = (p2 + (1 : Int32))) (F_this_narrow : Fld Z h0 this "com/example/tallymark/tallymark/SlotArray" "narrow" "[C" (.ref a)) (A_a : own_Av Z h0 a .char n f) (ge_a : n0 ≤ a) (ne_this_a : this ≠ a) :
    MetFree l (⟨"com/example/tallymark/tallymark/SlotArray", "set", "(II)V"⟩ : MethodName) (head1 (Jvm.Cond.code (⟨"com/example/tallymark/tallymark/SlotArray", "set", "(II)V"⟩ : MethodName) prog_20_method_4_code 3 none :: ws) ({ frames := 0, cells := 0, slots := 0, locals := 0 } : Room)) (fun a U => a = #[(.ref this), (.int p1), (.int p2)] ∧ Z.Warmed39 U.vm ∧ U.heap = h0) (fun _ _ _ _ _ => True) (fun _ U o U' => ∃ v L, o = .returned v ∧ own_q_own_setn Z this p1 p2 a n k f h0 n0 v U'.heap L ∧ FrameEnd U o U' L ({ frames := 0, cells := 0, slots := 0, locals := 0 } : Room).cells ({ frames := 0, cells := 0, slots := 0, locals := 0 } : Room).slots) := by
  refine MetFree.of_bodySF (plainFor_of_name own_pn_SlotArray) hisR ?_
  intro p e s m args below meth c T0 Bd hml0 hP hK
  obtain ⟨rfl, hZ, hh⟩ := hP
  have hx := Bd.exec
  have hby := Bd.bytes
  have hml : c.maxLocals = 3 := hml0
  have hown : s.vm.findClass "com/example/tallymark/tallymark/SlotArray" = some m.cls := findClass_of_methodNamed Bd.named
  have hnm := (name_of_methodNamed Bd.named Bd.method).1
  have hret : meth.sig.returnType = none := Bd.returns
  have hlk : meth.locks = false := BodyLoose.notSynchronized Bd
  have X0 : Stand p l e ({ frames := 0, cells := 0, slots := 0, locals := 0 } : Room) s m #[(.ref this), (.int p1), (.int p2)] below meth c T0 [] 0 0 := Stand.of_body Bd
  have e0 : T0.heap = h0 := by rw [← hh, Bd.state]; rfl
  have N0 := Fr.nil n0
  refine own_start (own_ef4 m this p1 p2) (Q := fun (v : Option Value) (h : Heap) (L : List Loc) => v = none ∧ Fr n0 L ∧ Keep h0 h [a] ∧ own_Av Z h a .char n (own_upd f k (.int (p2 + (1 : Int32))))) (k := 0) (j := 0) ?_
  show own_Go p e below T0 (mkF m 0 #[.val (.ref this), .val (.int p1), .val (.int p2)] []) _
  have K0 := Keep.refl h0 [a]
  refine own_s_aloadN X0.here hx (hb hby own_d4_0) rfl rfl ?_
  obtain ⟨T13, X13, e13, st13⟩ := getF X0 hx hZ hown (host := "") (Or.inl (hw _ (List.mem_of_getElem? (i := 16) rfl))) Via.refl e0 F_this_narrow (g := (mkF m 1 #[.val (.ref this), .val (.int p1), .val (.int p2)] [(.ref this)])) rfl rfl (hb hby own_d4_1)
  refine own_by st13 ?_
  show own_Go p e below T13 (mkF m 4 #[.val (.ref this), .val (.int p1), .val (.int p2)] [(.ref a)]) _
  refine own_by (fun tq_ kq_ => XS.ifnullNo X13.here hx rfl (hb hby own_d4_4) rfl kq_) ?_
  show own_Go p e below T13 (mkF m 7 #[.val (.ref this), .val (.int p1), .val (.int p2)] []) _
  refine own_s_aloadN X13.here hx (hb hby own_d4_7) rfl rfl ?_
  obtain ⟨T14, X14, e14, st14⟩ := getF X13 hx hZ hown (host := "") (Or.inl (hw _ (List.mem_of_getElem? (i := 16) rfl))) Via.refl e13 F_this_narrow (g := (mkF m 8 #[.val (.ref this), .val (.int p1), .val (.int p2)] [(.ref this)])) rfl rfl (hb hby own_d4_8)
  refine own_by st14 ?_
  show own_Go p e below T14 (mkF m 11 #[.val (.ref this), .val (.int p1), .val (.int p2)] [(.ref a)]) _
  refine own_s_iloadN X14.here hx (hb hby own_d4_11) rfl ?_
  refine own_s_iloadN X14.here hx (hb hby own_d4_12) rfl ?_
  refine own_s_iconst X14.here hx (1 : Int32) (hb hby own_d4_13) rfl ?_
  refine own_s_iadd X14.here hx (hb hby own_d4_14) ?_
  refine own_s_i2c X14.here hx (hb hby own_d4_15) ?_
  obtain ⟨T15, h15, X15, e15, W15, fa15, st15⟩ := own_stC X14 hx hZ e14 A_a (k := k) hj hk (g := (mkF m 16 #[.val (.ref this), .val (.int p1), .val (.int p2)] [(.int ((p2 + (1 : Int32)).toUInt32.toUInt16.toUInt32.toInt32)), (.int p1), (.ref a)])) rfl rfl (hb hby own_d4_16)
  have f16 := F_this_narrow.other W15 (Or.inl ne_this_a)
  have N15 := Fr.snoc X15 N0 ge_a
  have SZ15 : n0 ≤ h15.size := by rw [W15.size]; exact Z0
  have K15 := K0.wr W15 (Or.inl (List.mem_of_getElem? (i := 0) rfl))
  refine own_by st15 ?_
  show own_Go p e below T15 (mkF m 17 #[.val (.ref this), .val (.int p1), .val (.int p2)] []) _
  refine own_s_goto X15.here hx 29 (hb hby own_d4_17) (by decide) (by decide) ?_
  refine own_retV X15 hx hret hlk (hb hby own_d4_29) (by decide) (by decide) ?_
  rw [e15]
  have fx := fa15
  rw [hnar] at fx
  exact ⟨rfl, N15, K15, fx⟩
def own_q_own_iniw (Z : State) (this : Addr) (p1 : Int32) (p2 : Int32) (n : Nat) (h0 : Heap) (n0 : Nat) (v : Option Value) (h : Heap) (L : List Loc) : Prop := v = none ∧ Fr n0 L ∧ Keep h0 h [this] ∧ ∃ a : Addr, n0 ≤ a ∧ this ≠ a ∧ Fld Z h this "com/example/tallymark/tallymark/SlotArray" "wide" "[I" (.ref a) ∧ own_Av Z h a .int n (fun _ => (.int (0 : Int32))) ∧ Fld Z h this "com/example/tallymark/tallymark/SlotArray" "narrow" "[C" .null
set_option maxRecDepth 65536 in
set_option maxHeartbeats 40000000 in
theorem own_iniw (l : Launch) (Z : State) (a0 : Array Value) (hw : ∀ d ∈ tables_1, d.before a0 Z = true) (ws : List Jvm.Cond) (this : Addr) (p1 : Int32) (p2 : Int32) (n : Nat) (h0 : Heap) (n0 : Nat) (Z0 : n0 ≤ h0.size) (hm : (65535 : Int32) < p1) (hn : p2.toNatClampNeg = n) (hneg : ¬ p2 < 0) (hle : n ≤ 8) (E_this : Exa Z h0 this "com/example/tallymark/tallymark/SlotArray") (F_this_narrow : Fld Z h0 this "com/example/tallymark/tallymark/SlotArray" "narrow" "[C" .null) (F_this_wide : Fld Z h0 this "com/example/tallymark/tallymark/SlotArray" "wide" "[I" .null) (ge_this : n0 ≤ this) :
    MetFree l (⟨"com/example/tallymark/tallymark/SlotArray", "<init>", "(II)V"⟩ : MethodName) (head1 (Jvm.Cond.code (⟨"com/example/tallymark/tallymark/SlotArray", "<init>", "(II)V"⟩ : MethodName) prog_20_method_1_code 3 none :: ws) ({ frames := 1, cells := 1, slots := 8, locals := 12 } : Room)) (fun a U => a = #[(.ref this), (.int p1), (.int p2)] ∧ Z.Warmed39 U.vm ∧ U.heap = h0) (fun _ _ _ _ _ => True) (fun _ U o U' => ∃ v L, o = .returned v ∧ own_q_own_iniw Z this p1 p2 n h0 n0 v U'.heap L ∧ FrameEnd U o U' L ({ frames := 1, cells := 1, slots := 8, locals := 12 } : Room).cells ({ frames := 1, cells := 1, slots := 8, locals := 12 } : Room).slots) := by
  refine MetFree.of_bodySF (plainFor_of_name own_pn_SlotArray) hisR ?_
  intro p e s m args below meth c T0 Bd hml0 hP hK
  obtain ⟨rfl, hZ, hh⟩ := hP
  have hx := Bd.exec
  have hby := Bd.bytes
  have hml : c.maxLocals = 3 := hml0
  have hown : s.vm.findClass "com/example/tallymark/tallymark/SlotArray" = some m.cls := findClass_of_methodNamed Bd.named
  have hnm := (name_of_methodNamed Bd.named Bd.method).1
  have hret : meth.sig.returnType = none := Bd.returns
  have hlk : meth.locks = false := BodyLoose.notSynchronized Bd
  have X0 : Stand p l e ({ frames := 1, cells := 1, slots := 8, locals := 12 } : Room) s m #[(.ref this), (.int p1), (.int p2)] below meth c T0 [] 0 0 := Stand.of_body Bd
  have e0 : T0.heap = h0 := by rw [← hh, Bd.state]; rfl
  have N0 := Fr.nil n0
  refine own_start (own_ef2 m this p1 p2) (Q := fun (v : Option Value) (h : Heap) (L : List Loc) => v = none ∧ Fr n0 L ∧ Keep h0 h [this] ∧ ∃ a : Addr, n0 ≤ a ∧ this ≠ a ∧ Fld Z h this "com/example/tallymark/tallymark/SlotArray" "wide" "[I" (.ref a) ∧ own_Av Z h a .int n (fun _ => (.int (0 : Int32))) ∧ Fld Z h this "com/example/tallymark/tallymark/SlotArray" "narrow" "[C" .null) (k := 1) (j := 8) ?_
  show own_Go p e below T0 (mkF m 0 #[.val (.ref this), .val (.int p1), .val (.int p2)] []) _
  have K0 := Keep.refl h0 [this]
  refine own_s_aloadN X0.here hx (hb hby own_d2_0) rfl rfl ?_
  obtain ⟨T17, X17, e17, st17⟩ := initO X0 hx hZ hown (hw _ (List.mem_of_getElem? (i := 11) rfl)) (hw _ (List.mem_of_getElem? (i := 12) rfl)) (hw _ (List.mem_of_getElem? (i := 13) rfl)) e0 (g := (mkF m 1 #[.val (.ref this), .val (.int p1), .val (.int p2)] [(.ref this)])) rfl (by rw [hml]; rfl) rfl (hb hby own_d2_1) (by decide) (W := 0) (by show 2 * 0 + _ ≤ _; exact Nat.le_of_eq rfl) (by decide)
  refine own_by st17 ?_
  show own_Go p e below T17 (mkF m 4 #[.val (.ref this), .val (.int p1), .val (.int p2)] []) _
  refine own_s_iloadN X17.here hx (hb hby own_d2_4) rfl ?_
  refine own_by (fun tq_ kq_ => X17.ldcInt hx hown (mvT hZ (hw _ (List.mem_of_getElem? (i := 14) rfl))) (g := (mkF m 5 #[.val (.ref this), .val (.int p1), .val (.int p2)] [(.int p1)])) rfl (hb hby own_d2_5) tq_ kq_) ?_
  show own_Go p e below T17 (mkF m 7 #[.val (.ref this), .val (.int p1), .val (.int p2)] [(.int (65535 : Int32)), (.int p1)]) _
  refine own_s_icmpYes X17.here hx 20 (hb hby own_d2_7) (Jvm.Free.XT.ii_gt_t hm) (by decide) (by decide) ?_
  refine own_s_aloadN X17.here hx (hb hby own_d2_20) rfl rfl ?_
  refine own_s_iloadN X17.here hx (hb hby own_d2_21) rfl ?_
  obtain ⟨T18, h18, k18, X18, e18, E18, A18, st18⟩ := newP X17 hx hZ (hw _ (List.mem_of_getElem? (i := 33) rfl)) e17 (g := (mkF m 22 #[.val (.ref this), .val (.int p1), .val (.int p2)] [(.int p2), (.ref this)])) rfl (hb hby own_d2_22) rfl hneg (cap := 8) (by rw [hn]; exact hle) (by decide) (by decide) (by decide)
  obtain ⟨b18, g18⟩ : ∃ z, z = h0.size := ⟨_, rfl⟩
  rw [← g18] at A18 st18
  have ge_b18 : n0 ≤ b18 := Nat.le_trans Z0 (Nat.le_of_eq g18.symm)
  have sz_b18 : h0.size ≤ b18 := Nat.le_trans K0.1 (Nat.le_of_eq g18.symm)
  have ne_this_b18 : this ≠ b18 := Nat.ne_of_lt (Nat.lt_of_lt_of_le E_this.lt (Nat.le_of_eq g18.symm))
  have f19 := E_this.ext E18
  have f20 := F_this_narrow.ext E18
  have f21 := F_this_wide.ext E18
  have SZ18 : n0 ≤ h18.size := Nat.le_trans Z0 E18.1
  have K18 := K0.ext E18
  have f22 : own_Av Z h18 b18 .int n (fun _ => (.int (0 : Int32))) := own_Av.ofnew A18 hn rfl
  refine own_by st18 ?_
  show own_Go p e below T18 (mkF m 24 #[.val (.ref this), .val (.int p1), .val (.int p2)] [(.ref b18), (.ref this)]) _
  obtain ⟨T23, h23, X23, e23, W23, st23⟩ := putF X18 hx hZ hown (host := "") (Or.inl (hw _ (List.mem_of_getElem? (i := 34) rfl))) Via.refl e18 f21 f19 (Or.inl (hw _ (List.mem_of_getElem? (i := 35) rfl))) (hw _ (List.mem_of_getElem? (i := 6) rfl)) (ty := (.array .int)) (by decide) rfl rfl (g := (mkF m 24 #[.val (.ref this), .val (.int p1), .val (.int p2)] [(.ref b18), (.ref this)])) rfl rfl (hb hby own_d2_24)
  have fw23 := f21.same W23
  have f24 := f19.wr W23
  have f25 := f20.other W23 (Or.inr (slot_ne (Or.inl (hw _ (List.mem_of_getElem? (i := 17) rfl))) (Or.inl (hw _ (List.mem_of_getElem? (i := 35) rfl))) (by decide) (t := (.array .char)) (t' := (.array .int)) (by decide) (by decide)))
  have f26 := f22.other W23 (Ne.symm ne_this_b18)
  have N23 := Fr.snoc X23 N0 ge_this
  have SZ23 : n0 ≤ h23.size := by rw [W23.size]; exact SZ18
  have K23 := K18.wr W23 (Or.inl (List.mem_of_getElem? (i := 0) rfl))
  refine own_by st23 ?_
  show own_Go p e below T23 (mkF m 27 #[.val (.ref this), .val (.int p1), .val (.int p2)] []) _
  refine own_retV X23 hx hret hlk (hb hby own_d2_27) (by decide) (by decide) ?_
  rw [e23]
  exact ⟨rfl, N23, K23, b18, ge_b18, ne_this_b18, fw23, f26, f25⟩
def own_q_own_getw (Z : State) (this : Addr) (p1 : Int32) (a : Addr) (n k : Nat) (f : Nat → Value) (z : Int32) (h0 : Heap) (n0 : Nat) (v : Option Value) (h : Heap) (L : List Loc) : Prop := v = some (.int (z - (1 : Int32))) ∧ Fr n0 L ∧ h = h0
set_option maxRecDepth 65536 in
set_option maxHeartbeats 40000000 in
theorem own_getw (l : Launch) (Z : State) (a0 : Array Value) (hw : ∀ d ∈ tables_1, d.before a0 Z = true) (ws : List Jvm.Cond) (this : Addr) (p1 : Int32) (a : Addr) (n k : Nat) (f : Nat → Value) (z : Int32) (h0 : Heap) (n0 : Nat) (Z0 : n0 ≤ h0.size) (hj : own_At p1 k) (hk : k < n) (hv : f k = .int z) (F_this_wide : Fld Z h0 this "com/example/tallymark/tallymark/SlotArray" "wide" "[I" (.ref a)) (F_this_narrow : Fld Z h0 this "com/example/tallymark/tallymark/SlotArray" "narrow" "[C" .null) (A_a : own_Av Z h0 a .int n f) :
    MetFree l (⟨"com/example/tallymark/tallymark/SlotArray", "get", "(I)I"⟩ : MethodName) (head1 (Jvm.Cond.code (⟨"com/example/tallymark/tallymark/SlotArray", "get", "(I)I"⟩ : MethodName) prog_20_method_3_code 2 (some .int) :: ws) ({ frames := 0, cells := 0, slots := 0, locals := 0 } : Room)) (fun a U => a = #[(.ref this), (.int p1)] ∧ Z.Warmed39 U.vm ∧ U.heap = h0) (fun _ _ _ _ _ => True) (fun _ U o U' => ∃ v L, o = .returned v ∧ own_q_own_getw Z this p1 a n k f z h0 n0 v U'.heap L ∧ FrameEnd U o U' L ({ frames := 0, cells := 0, slots := 0, locals := 0 } : Room).cells ({ frames := 0, cells := 0, slots := 0, locals := 0 } : Room).slots) := by
  refine MetFree.of_bodySF (plainFor_of_name own_pn_SlotArray) hisR ?_
  intro p e s m args below meth c T0 Bd hml0 hP hK
  obtain ⟨rfl, hZ, hh⟩ := hP
  have hx := Bd.exec
  have hby := Bd.bytes
  have hml : c.maxLocals = 2 := hml0
  have hown : s.vm.findClass "com/example/tallymark/tallymark/SlotArray" = some m.cls := findClass_of_methodNamed Bd.named
  have hnm := (name_of_methodNamed Bd.named Bd.method).1
  have hret : meth.sig.returnType = (some .int) := Bd.returns
  have hlk : meth.locks = false := BodyLoose.notSynchronized Bd
  have X0 : Stand p l e ({ frames := 0, cells := 0, slots := 0, locals := 0 } : Room) s m #[(.ref this), (.int p1)] below meth c T0 [] 0 0 := Stand.of_body Bd
  have e0 : T0.heap = h0 := by rw [← hh, Bd.state]; rfl
  have N0 := Fr.nil n0
  refine own_start (own_ef5 m this p1) (Q := fun (v : Option Value) (h : Heap) (L : List Loc) => v = some (.int (z - (1 : Int32))) ∧ Fr n0 L ∧ h = h0) (k := 0) (j := 0) ?_
  show own_Go p e below T0 (mkF m 0 #[.val (.ref this), .val (.int p1)] []) _
  refine own_s_aloadN X0.here hx (hb hby own_d5_0) rfl rfl ?_
  obtain ⟨T27, X27, e27, st27⟩ := getF X0 hx hZ hown (host := "") (Or.inl (hw _ (List.mem_of_getElem? (i := 16) rfl))) Via.refl e0 F_this_narrow (g := (mkF m 1 #[.val (.ref this), .val (.int p1)] [(.ref this)])) rfl rfl (hb hby own_d5_1)
  refine own_by st27 ?_
  show own_Go p e below T27 (mkF m 4 #[.val (.ref this), .val (.int p1)] [.null]) _
  refine own_by (fun tq_ kq_ => XS.ifnullYes X27.here hx rfl (pc0 := 4) (pc' := 16) rfl (hb hby own_d5_4) rfl (by decide) (by decide) kq_) ?_
  show own_Go p e below T27 (mkF m 16 #[.val (.ref this), .val (.int p1)] []) _
  refine own_s_aloadN X27.here hx (hb hby own_d5_16) rfl rfl ?_
  obtain ⟨T28, X28, e28, st28⟩ := getF X27 hx hZ hown (host := "") (Or.inl (hw _ (List.mem_of_getElem? (i := 34) rfl))) Via.refl e27 F_this_wide (g := (mkF m 17 #[.val (.ref this), .val (.int p1)] [(.ref this)])) rfl rfl (hb hby own_d5_17)
  refine own_by st28 ?_
  show own_Go p e below T28 (mkF m 20 #[.val (.ref this), .val (.int p1)] [(.ref a)]) _
  refine own_s_iloadN X28.here hx (hb hby own_d5_20) rfl ?_
  refine own_by (fun tq_ kq_ => own_ldI X28 hx hZ e28 A_a (k := k) (v := (.int z)) hj hk hv (g := (mkF m 21 #[.val (.ref this), .val (.int p1)] [(.int p1), (.ref a)])) rfl rfl (hb hby own_d5_21) tq_ kq_) ?_
  show own_Go p e below T28 (mkF m 22 #[.val (.ref this), .val (.int p1)] [(.int z)]) _
  refine own_s_iconst X28.here hx (1 : Int32) (hb hby own_d5_22) rfl ?_
  refine own_s_isub X28.here hx (hb hby own_d5_23) ?_
  refine own_retI X28 hx hret hlk (hb hby own_d5_24) (by decide) (by decide) ?_
  exact ⟨rfl, N0, e28⟩
def own_q_own_setw (Z : State) (this : Addr) (p1 : Int32) (p2 : Int32) (a : Addr) (n k : Nat) (f : Nat → Value) (h0 : Heap) (n0 : Nat) (v : Option Value) (h : Heap) (L : List Loc) : Prop := v = none ∧ Fr n0 L ∧ Keep h0 h [a] ∧ own_Av Z h a .int n (own_upd f k (.int (p2 + (1 : Int32))))
set_option maxRecDepth 65536 in
set_option maxHeartbeats 40000000 in
theorem own_setw (l : Launch) (Z : State) (a0 : Array Value) (hw : ∀ d ∈ tables_1, d.before a0 Z = true) (ws : List Jvm.Cond) (this : Addr) (p1 : Int32) (p2 : Int32) (a : Addr) (n k : Nat) (f : Nat → Value) (h0 : Heap) (n0 : Nat) (Z0 : n0 ≤ h0.size) (hj : own_At p1 k) (hk : k < n) (F_this_wide : Fld Z h0 this "com/example/tallymark/tallymark/SlotArray" "wide" "[I" (.ref a)) (F_this_narrow : Fld Z h0 this "com/example/tallymark/tallymark/SlotArray" "narrow" "[C" .null) (A_a : own_Av Z h0 a .int n f) (ge_a : n0 ≤ a) (ne_this_a : this ≠ a) :
    MetFree l (⟨"com/example/tallymark/tallymark/SlotArray", "set", "(II)V"⟩ : MethodName) (head1 (Jvm.Cond.code (⟨"com/example/tallymark/tallymark/SlotArray", "set", "(II)V"⟩ : MethodName) prog_20_method_4_code 3 none :: ws) ({ frames := 0, cells := 0, slots := 0, locals := 0 } : Room)) (fun a U => a = #[(.ref this), (.int p1), (.int p2)] ∧ Z.Warmed39 U.vm ∧ U.heap = h0) (fun _ _ _ _ _ => True) (fun _ U o U' => ∃ v L, o = .returned v ∧ own_q_own_setw Z this p1 p2 a n k f h0 n0 v U'.heap L ∧ FrameEnd U o U' L ({ frames := 0, cells := 0, slots := 0, locals := 0 } : Room).cells ({ frames := 0, cells := 0, slots := 0, locals := 0 } : Room).slots) := by
  refine MetFree.of_bodySF (plainFor_of_name own_pn_SlotArray) hisR ?_
  intro p e s m args below meth c T0 Bd hml0 hP hK
  obtain ⟨rfl, hZ, hh⟩ := hP
  have hx := Bd.exec
  have hby := Bd.bytes
  have hml : c.maxLocals = 3 := hml0
  have hown : s.vm.findClass "com/example/tallymark/tallymark/SlotArray" = some m.cls := findClass_of_methodNamed Bd.named
  have hnm := (name_of_methodNamed Bd.named Bd.method).1
  have hret : meth.sig.returnType = none := Bd.returns
  have hlk : meth.locks = false := BodyLoose.notSynchronized Bd
  have X0 : Stand p l e ({ frames := 0, cells := 0, slots := 0, locals := 0 } : Room) s m #[(.ref this), (.int p1), (.int p2)] below meth c T0 [] 0 0 := Stand.of_body Bd
  have e0 : T0.heap = h0 := by rw [← hh, Bd.state]; rfl
  have N0 := Fr.nil n0
  refine own_start (own_ef4 m this p1 p2) (Q := fun (v : Option Value) (h : Heap) (L : List Loc) => v = none ∧ Fr n0 L ∧ Keep h0 h [a] ∧ own_Av Z h a .int n (own_upd f k (.int (p2 + (1 : Int32))))) (k := 0) (j := 0) ?_
  show own_Go p e below T0 (mkF m 0 #[.val (.ref this), .val (.int p1), .val (.int p2)] []) _
  have K0 := Keep.refl h0 [a]
  refine own_s_aloadN X0.here hx (hb hby own_d4_0) rfl rfl ?_
  obtain ⟨T29, X29, e29, st29⟩ := getF X0 hx hZ hown (host := "") (Or.inl (hw _ (List.mem_of_getElem? (i := 16) rfl))) Via.refl e0 F_this_narrow (g := (mkF m 1 #[.val (.ref this), .val (.int p1), .val (.int p2)] [(.ref this)])) rfl rfl (hb hby own_d4_1)
  refine own_by st29 ?_
  show own_Go p e below T29 (mkF m 4 #[.val (.ref this), .val (.int p1), .val (.int p2)] [.null]) _
  refine own_by (fun tq_ kq_ => XS.ifnullYes X29.here hx rfl (pc0 := 4) (pc' := 20) rfl (hb hby own_d4_4) rfl (by decide) (by decide) kq_) ?_
  show own_Go p e below T29 (mkF m 20 #[.val (.ref this), .val (.int p1), .val (.int p2)] []) _
  refine own_s_aloadN X29.here hx (hb hby own_d4_20) rfl rfl ?_
  obtain ⟨T30, X30, e30, st30⟩ := getF X29 hx hZ hown (host := "") (Or.inl (hw _ (List.mem_of_getElem? (i := 34) rfl))) Via.refl e29 F_this_wide (g := (mkF m 21 #[.val (.ref this), .val (.int p1), .val (.int p2)] [(.ref this)])) rfl rfl (hb hby own_d4_21)
  refine own_by st30 ?_
  show own_Go p e below T30 (mkF m 24 #[.val (.ref this), .val (.int p1), .val (.int p2)] [(.ref a)]) _
  refine own_s_iloadN X30.here hx (hb hby own_d4_24) rfl ?_
  refine own_s_iloadN X30.here hx (hb hby own_d4_25) rfl ?_
  refine own_s_iconst X30.here hx (1 : Int32) (hb hby own_d4_26) rfl ?_
  refine own_s_iadd X30.here hx (hb hby own_d4_27) ?_
  obtain ⟨T31, h31, X31, e31, W31, fa31, st31⟩ := own_stI X30 hx hZ e30 A_a (k := k) hj hk (g := (mkF m 28 #[.val (.ref this), .val (.int p1), .val (.int p2)] [(.int (p2 + (1 : Int32))), (.int p1), (.ref a)])) rfl rfl (hb hby own_d4_28)
  have f32 := F_this_wide.other W31 (Or.inl ne_this_a)
  have f33 := F_this_narrow.other W31 (Or.inl ne_this_a)
  have N31 := Fr.snoc X31 N0 ge_a
  have SZ31 : n0 ≤ h31.size := by rw [W31.size]; exact Z0
  have K31 := K0.wr W31 (Or.inl (List.mem_of_getElem? (i := 0) rfl))
  refine own_by st31 ?_
  show own_Go p e below T31 (mkF m 29 #[.val (.ref this), .val (.int p1), .val (.int p2)] []) _
  refine own_retV X31 hx hret hlk (hb hby own_d4_29) (by decide) (by decide) ?_
  rw [e31]
  exact ⟨rfl, N31, K31, fa31⟩
theorem own_rg (u : Int32) (hu : 0 ≤ u.toInt) : ((u.toInt64) + (1 : Int64)).toInt = u.toInt + 1 := by
  have := u.toInt_lt
  have e : u.toInt64.toInt = u.toInt := Jvm.Kit.i64_of_i32 u
  have c1 : (1 : Int64).toInt = 1 := by decide
  rw [Jvm.Kit.i64_add (by rw [e, c1]; omega) (by rw [e, c1]; omega), e, c1]
theorem own_nz (u : Int32) (hu : 0 ≤ u.toInt) : ((u.toInt64) + (1 : Int64)) ≠ 0 := fun q => by
  have := own_rg u hu
  rw [q, show (0 : Int64).toInt = 0 from by decide] at this
  omega
def own_pick (u0 u1 : Int32) : Int32 := (((((u0 &&& (2147483647 : Int32)).toInt64) % ((u1.toInt64) + (1 : Int64))).toInt32) - (1 : Int32))
theorem own_d1_0 : decode method_2_code 0 = .ok (.iload_n 0, 1) := by decide +kernel
theorem own_d1_1 : decode method_2_code 1 = .ok (.ldc 7, 2) := by decide +kernel
theorem own_d1_3 : decode method_2_code 3 = .ok (.iand, 1) := by decide +kernel
theorem own_d1_4 : decode method_2_code 4 = .ok (.i2l, 1) := by decide +kernel
theorem own_d1_5 : decode method_2_code 5 = .ok (.lstore_n 2, 1) := by decide +kernel
theorem own_d1_6 : decode method_2_code 6 = .ok (.iload_n 1, 1) := by decide +kernel
theorem own_d1_7 : decode method_2_code 7 = .ok (.i2l, 1) := by decide +kernel
theorem own_d1_8 : decode method_2_code 8 = .ok (.lconst 1, 1) := by decide +kernel
theorem own_d1_9 : decode method_2_code 9 = .ok (.ladd, 1) := by decide +kernel
theorem own_d1_10 : decode method_2_code 10 = .ok (.lstore 4, 2) := by decide +kernel
theorem own_d1_12 : decode method_2_code 12 = .ok (.lload_n 2, 1) := by decide +kernel
theorem own_d1_13 : decode method_2_code 13 = .ok (.lload 4, 2) := by decide +kernel
theorem own_d1_15 : decode method_2_code 15 = .ok (.lrem, 1) := by decide +kernel
theorem own_d1_16 : decode method_2_code 16 = .ok (.l2i, 1) := by decide +kernel
theorem own_d1_17 : decode method_2_code 17 = .ok (.iconst 1, 1) := by decide +kernel
theorem own_d1_18 : decode method_2_code 18 = .ok (.isub, 1) := by decide +kernel
theorem own_d1_19 : decode method_2_code 19 = .ok (.ireturn, 1) := by decide +kernel
theorem own_pn_SlotArraySetPinLaw : plainName "com/example/tallymark/tallymark/SlotArraySetPinLaw" = true := by first | (simp [plainName, overriddenIn]; done) | decide +kernel
theorem own_ef1 (m : MethodId) (u0 : Int32) (u1 : Int32) : entryFrame m #[(.int u0), (.int u1)] 6 = mkF m 0 #[.val (.int u0), .val (.int u1), .unset, .unset, .unset, .unset] [] := by first | (simp [entryFrame, mkF, argsToLocals, Value.category]; done) | rfl
def own_q_own_r1 (Z : State) (u0 : Int32) (u1 : Int32) (h0 : Heap) (n0 : Nat) (v : Option Value) (h : Heap) (L : List Loc) : Prop := v = some (.int (own_pick u0 u1)) ∧ Fr n0 L ∧ h = h0
set_option maxRecDepth 65536 in
set_option maxHeartbeats 40000000 in
theorem own_r1 (l : Launch) (Z : State) (a0 : Array Value) (hw : ∀ d ∈ tables_1, d.before a0 Z = true) (ws : List Jvm.Cond) (u0 : Int32) (u1 : Int32) (h0 : Heap) (n0 : Nat) (Z0 : n0 ≤ h0.size) (hu : 0 ≤ u1.toInt) :
    MetFree l (⟨"com/example/tallymark/tallymark/SlotArraySetPinLaw", "slotIn", "(II)I"⟩ : MethodName) (head1 (Jvm.Cond.code (⟨"com/example/tallymark/tallymark/SlotArraySetPinLaw", "slotIn", "(II)I"⟩ : MethodName) method_2_code 6 (some .int) :: ws) ({ frames := 0, cells := 0, slots := 0, locals := 0 } : Room)) (fun a U => a = #[(.int u0), (.int u1)] ∧ Z.Warmed39 U.vm ∧ U.heap = h0) (fun _ _ _ _ _ => True) (fun _ U o U' => ∃ v L, o = .returned v ∧ own_q_own_r1 Z u0 u1 h0 n0 v U'.heap L ∧ FrameEnd U o U' L ({ frames := 0, cells := 0, slots := 0, locals := 0 } : Room).cells ({ frames := 0, cells := 0, slots := 0, locals := 0 } : Room).slots) := by
  refine MetFree.of_bodySF (plainFor_of_name own_pn_SlotArraySetPinLaw) hisR ?_
  intro p e s m args below meth c T0 Bd hml0 hP hK
  obtain ⟨rfl, hZ, hh⟩ := hP
  have hx := Bd.exec
  have hby := Bd.bytes
  have hml : c.maxLocals = 6 := hml0
  have hown : s.vm.findClass "com/example/tallymark/tallymark/SlotArraySetPinLaw" = some m.cls := findClass_of_methodNamed Bd.named
  have hnm := (name_of_methodNamed Bd.named Bd.method).1
  have hret : meth.sig.returnType = (some .int) := Bd.returns
  have hlk : meth.locks = false := BodyLoose.notSynchronized Bd
  have X0 : Stand p l e ({ frames := 0, cells := 0, slots := 0, locals := 0 } : Room) s m #[(.int u0), (.int u1)] below meth c T0 [] 0 0 := Stand.of_body Bd
  have e0 : T0.heap = h0 := by rw [← hh, Bd.state]; rfl
  have N0 := Fr.nil n0
  refine own_start (own_ef1 m u0 u1) (Q := fun (v : Option Value) (h : Heap) (L : List Loc) => v = some (.int (own_pick u0 u1)) ∧ Fr n0 L ∧ h = h0) (k := 0) (j := 0) ?_
  show own_Go p e below T0 (mkF m 0 #[.val (.int u0), .val (.int u1), .unset, .unset, .unset, .unset] []) _
  refine own_s_iloadN X0.here hx (hb hby own_d1_0) rfl ?_
  refine own_by (fun tq_ kq_ => X0.ldcInt hx hown (mvT hZ (hw _ (List.mem_of_getElem? (i := 0) rfl))) (g := (mkF m 1 #[.val (.int u0), .val (.int u1), .unset, .unset, .unset, .unset] [(.int u0)])) rfl (hb hby own_d1_1) tq_ kq_) ?_
  show own_Go p e below T0 (mkF m 3 #[.val (.int u0), .val (.int u1), .unset, .unset, .unset, .unset] [(.int (2147483647 : Int32)), (.int u0)]) _
  refine own_s_iand X0.here hx (hb hby own_d1_3) ?_
  refine own_s_i2l X0.here hx (hb hby own_d1_4) ?_
  refine own_s_lstoreN X0.here hx #[.val (.int u0), .val (.int u1), .val (.long ((u0 &&& (2147483647 : Int32)).toInt64)), .second, .unset, .unset] (hb hby own_d1_5) rfl ?_
  refine own_s_iloadN X0.here hx (hb hby own_d1_6) rfl ?_
  refine own_s_i2l X0.here hx (hb hby own_d1_7) ?_
  refine own_s_lconst X0.here hx (1 : Int64) (hb hby own_d1_8) rfl ?_
  refine own_s_ladd X0.here hx (hb hby own_d1_9) ?_
  refine own_s_lstore X0.here hx #[.val (.int u0), .val (.int u1), .val (.long ((u0 &&& (2147483647 : Int32)).toInt64)), .second, .val (.long ((u1.toInt64) + (1 : Int64))), .second] (hb hby own_d1_10) rfl ?_
  refine own_s_lloadN X0.here hx (hb hby own_d1_12) rfl ?_
  refine own_s_lload X0.here hx (hb hby own_d1_13) rfl ?_
  refine own_by (fun tq_ kq_ => own_lrem X0 hx rfl (hb hby own_d1_15) rfl (own_nz u1 hu) kq_) ?_
  show own_Go p e below T0 (mkF m 16 #[.val (.int u0), .val (.int u1), .val (.long ((u0 &&& (2147483647 : Int32)).toInt64)), .second, .val (.long ((u1.toInt64) + (1 : Int64))), .second] [(.long (((u0 &&& (2147483647 : Int32)).toInt64) % ((u1.toInt64) + (1 : Int64))))]) _
  refine own_s_l2i X0.here hx (hb hby own_d1_16) ?_
  refine own_s_iconst X0.here hx (1 : Int32) (hb hby own_d1_17) rfl ?_
  refine own_s_isub X0.here hx (hb hby own_d1_18) ?_
  refine own_retI X0 hx hret hlk (hb hby own_d1_19) (by decide) (by decide) ?_
  exact ⟨rfl, N0, e0⟩
theorem own_d6_0 : decode prog_20_method_2_code 0 = .ok (.aload_n 0, 1) := by decide +kernel
theorem own_d6_1 : decode prog_20_method_2_code 1 = .ok (.getfield 12, 3) := by decide +kernel
theorem own_d6_4 : decode prog_20_method_2_code 4 = .ok (.ifnull 11, 3) := by decide +kernel
theorem own_d6_7 : decode prog_20_method_2_code 7 = .ok (.aload_n 0, 1) := by decide +kernel
theorem own_d6_8 : decode prog_20_method_2_code 8 = .ok (.getfield 12, 3) := by decide +kernel
theorem own_d6_11 : decode prog_20_method_2_code 11 = .ok (.arraylength, 1) := by decide +kernel
theorem own_d6_12 : decode prog_20_method_2_code 12 = .ok (.goto 8, 3) := by decide +kernel
theorem own_d6_15 : decode prog_20_method_2_code 15 = .ok (.aload_n 0, 1) := by decide +kernel
theorem own_d6_16 : decode prog_20_method_2_code 16 = .ok (.getfield 16, 3) := by decide +kernel
theorem own_d6_19 : decode prog_20_method_2_code 19 = .ok (.arraylength, 1) := by decide +kernel
theorem own_d6_20 : decode prog_20_method_2_code 20 = .ok (.ireturn, 1) := by decide +kernel
theorem own_ef6 (m : MethodId) (this : Addr) : entryFrame m #[(.ref this)] 1 = mkF m 0 #[.val (.ref this)] [] := by first | (simp [entryFrame, mkF, argsToLocals, Value.category]; done) | rfl
def own_q_own_lenn (Z : State) (this : Addr) (a : Addr) (n : Nat) (f : Nat → Value) (z : Int32) (h0 : Heap) (n0 : Nat) (v : Option Value) (h : Heap) (L : List Loc) : Prop := v = some (.int z) ∧ Fr n0 L ∧ h = h0
set_option maxRecDepth 65536 in
set_option maxHeartbeats 40000000 in
theorem own_lenn (l : Launch) (Z : State) (a0 : Array Value) (hw : ∀ d ∈ tables_1, d.before a0 Z = true) (ws : List Jvm.Cond) (this : Addr) (a : Addr) (n : Nat) (f : Nat → Value) (z : Int32) (h0 : Heap) (n0 : Nat) (Z0 : n0 ≤ h0.size) (hz : n.toInt32 = z) (F_this_narrow : Fld Z h0 this "com/example/tallymark/tallymark/SlotArray" "narrow" "[C" (.ref a)) (A_a : own_Av Z h0 a .char n f) :
    MetFree l (⟨"com/example/tallymark/tallymark/SlotArray", "length", "()I"⟩ : MethodName) (head1 (Jvm.Cond.code (⟨"com/example/tallymark/tallymark/SlotArray", "length", "()I"⟩ : MethodName) prog_20_method_2_code 1 (some .int) :: ws) ({ frames := 0, cells := 0, slots := 0, locals := 0 } : Room)) (fun a U => a = #[(.ref this)] ∧ Z.Warmed39 U.vm ∧ U.heap = h0) (fun _ _ _ _ _ => True) (fun _ U o U' => ∃ v L, o = .returned v ∧ own_q_own_lenn Z this a n f z h0 n0 v U'.heap L ∧ FrameEnd U o U' L ({ frames := 0, cells := 0, slots := 0, locals := 0 } : Room).cells ({ frames := 0, cells := 0, slots := 0, locals := 0 } : Room).slots) := by
  refine MetFree.of_bodySF (plainFor_of_name own_pn_SlotArray) hisR ?_
  intro p e s m args below meth c T0 Bd hml0 hP hK
  obtain ⟨rfl, hZ, hh⟩ := hP
  have hx := Bd.exec
  have hby := Bd.bytes
  have hml : c.maxLocals = 1 := hml0
  have hown : s.vm.findClass "com/example/tallymark/tallymark/SlotArray" = some m.cls := findClass_of_methodNamed Bd.named
  have hnm := (name_of_methodNamed Bd.named Bd.method).1
  have hret : meth.sig.returnType = (some .int) := Bd.returns
  have hlk : meth.locks = false := BodyLoose.notSynchronized Bd
  have X0 : Stand p l e ({ frames := 0, cells := 0, slots := 0, locals := 0 } : Room) s m #[(.ref this)] below meth c T0 [] 0 0 := Stand.of_body Bd
  have e0 : T0.heap = h0 := by rw [← hh, Bd.state]; rfl
  have N0 := Fr.nil n0
  refine own_start (own_ef6 m this) (Q := fun (v : Option Value) (h : Heap) (L : List Loc) => v = some (.int z) ∧ Fr n0 L ∧ h = h0) (k := 0) (j := 0) ?_
  show own_Go p e below T0 (mkF m 0 #[.val (.ref this)] []) _
  refine own_s_aloadN X0.here hx (hb hby own_d6_0) rfl rfl ?_
  obtain ⟨T34, X34, e34, st34⟩ := getF X0 hx hZ hown (host := "") (Or.inl (hw _ (List.mem_of_getElem? (i := 16) rfl))) Via.refl e0 F_this_narrow (g := (mkF m 1 #[.val (.ref this)] [(.ref this)])) rfl rfl (hb hby own_d6_1)
  refine own_by st34 ?_
  show own_Go p e below T34 (mkF m 4 #[.val (.ref this)] [(.ref a)]) _
  refine own_by (fun tq_ kq_ => XS.ifnullNo X34.here hx rfl (hb hby own_d6_4) rfl kq_) ?_
  show own_Go p e below T34 (mkF m 7 #[.val (.ref this)] []) _
  refine own_s_aloadN X34.here hx (hb hby own_d6_7) rfl rfl ?_
  obtain ⟨T35, X35, e35, st35⟩ := getF X34 hx hZ hown (host := "") (Or.inl (hw _ (List.mem_of_getElem? (i := 16) rfl))) Via.refl e34 F_this_narrow (g := (mkF m 8 #[.val (.ref this)] [(.ref this)])) rfl rfl (hb hby own_d6_8)
  refine own_by st35 ?_
  show own_Go p e below T35 (mkF m 11 #[.val (.ref this)] [(.ref a)]) _
  refine own_by (fun tq_ kq_ => own_len X35 hx hZ e35 A_a (z := z) hz (g := (mkF m 11 #[.val (.ref this)] [(.ref a)])) rfl rfl (hb hby own_d6_11) tq_ kq_) ?_
  show own_Go p e below T35 (mkF m 12 #[.val (.ref this)] [(.int z)]) _
  refine own_s_goto X35.here hx 20 (hb hby own_d6_12) (by decide) (by decide) ?_
  refine own_retI X35 hx hret hlk (hb hby own_d6_20) (by decide) (by decide) ?_
  exact ⟨rfl, N0, e35⟩
def own_q_own_lenw (Z : State) (this : Addr) (a : Addr) (n : Nat) (f : Nat → Value) (z : Int32) (h0 : Heap) (n0 : Nat) (v : Option Value) (h : Heap) (L : List Loc) : Prop := v = some (.int z) ∧ Fr n0 L ∧ h = h0
set_option maxRecDepth 65536 in
set_option maxHeartbeats 40000000 in
theorem own_lenw (l : Launch) (Z : State) (a0 : Array Value) (hw : ∀ d ∈ tables_1, d.before a0 Z = true) (ws : List Jvm.Cond) (this : Addr) (a : Addr) (n : Nat) (f : Nat → Value) (z : Int32) (h0 : Heap) (n0 : Nat) (Z0 : n0 ≤ h0.size) (hz : n.toInt32 = z) (F_this_wide : Fld Z h0 this "com/example/tallymark/tallymark/SlotArray" "wide" "[I" (.ref a)) (F_this_narrow : Fld Z h0 this "com/example/tallymark/tallymark/SlotArray" "narrow" "[C" .null) (A_a : own_Av Z h0 a .int n f) :
    MetFree l (⟨"com/example/tallymark/tallymark/SlotArray", "length", "()I"⟩ : MethodName) (head1 (Jvm.Cond.code (⟨"com/example/tallymark/tallymark/SlotArray", "length", "()I"⟩ : MethodName) prog_20_method_2_code 1 (some .int) :: ws) ({ frames := 0, cells := 0, slots := 0, locals := 0 } : Room)) (fun a U => a = #[(.ref this)] ∧ Z.Warmed39 U.vm ∧ U.heap = h0) (fun _ _ _ _ _ => True) (fun _ U o U' => ∃ v L, o = .returned v ∧ own_q_own_lenw Z this a n f z h0 n0 v U'.heap L ∧ FrameEnd U o U' L ({ frames := 0, cells := 0, slots := 0, locals := 0 } : Room).cells ({ frames := 0, cells := 0, slots := 0, locals := 0 } : Room).slots) := by
  refine MetFree.of_bodySF (plainFor_of_name own_pn_SlotArray) hisR ?_
  intro p e s m args below meth c T0 Bd hml0 hP hK
  obtain ⟨rfl, hZ, hh⟩ := hP
  have hx := Bd.exec
  have hby := Bd.bytes
  have hml : c.maxLocals = 1 := hml0
  have hown : s.vm.findClass "com/example/tallymark/tallymark/SlotArray" = some m.cls := findClass_of_methodNamed Bd.named
  have hnm := (name_of_methodNamed Bd.named Bd.method).1
  have hret : meth.sig.returnType = (some .int) := Bd.returns
  have hlk : meth.locks = false := BodyLoose.notSynchronized Bd
  have X0 : Stand p l e ({ frames := 0, cells := 0, slots := 0, locals := 0 } : Room) s m #[(.ref this)] below meth c T0 [] 0 0 := Stand.of_body Bd
  have e0 : T0.heap = h0 := by rw [← hh, Bd.state]; rfl
  have N0 := Fr.nil n0
  refine own_start (own_ef6 m this) (Q := fun (v : Option Value) (h : Heap) (L : List Loc) => v = some (.int z) ∧ Fr n0 L ∧ h = h0) (k := 0) (j := 0) ?_
  show own_Go p e below T0 (mkF m 0 #[.val (.ref this)] []) _
  refine own_s_aloadN X0.here hx (hb hby own_d6_0) rfl rfl ?_
  obtain ⟨T36, X36, e36, st36⟩ := getF X0 hx hZ hown (host := "") (Or.inl (hw _ (List.mem_of_getElem? (i := 16) rfl))) Via.refl e0 F_this_narrow (g := (mkF m 1 #[.val (.ref this)] [(.ref this)])) rfl rfl (hb hby own_d6_1)
  refine own_by st36 ?_
  show own_Go p e below T36 (mkF m 4 #[.val (.ref this)] [.null]) _
  refine own_by (fun tq_ kq_ => XS.ifnullYes X36.here hx rfl (pc0 := 4) (pc' := 15) rfl (hb hby own_d6_4) rfl (by decide) (by decide) kq_) ?_
  show own_Go p e below T36 (mkF m 15 #[.val (.ref this)] []) _
  refine own_s_aloadN X36.here hx (hb hby own_d6_15) rfl rfl ?_
  obtain ⟨T37, X37, e37, st37⟩ := getF X36 hx hZ hown (host := "") (Or.inl (hw _ (List.mem_of_getElem? (i := 34) rfl))) Via.refl e36 F_this_wide (g := (mkF m 16 #[.val (.ref this)] [(.ref this)])) rfl rfl (hb hby own_d6_16)
  refine own_by st37 ?_
  show own_Go p e below T37 (mkF m 19 #[.val (.ref this)] [(.ref a)]) _
  refine own_by (fun tq_ kq_ => own_len X37 hx hZ e37 A_a (z := z) hz (g := (mkF m 19 #[.val (.ref this)] [(.ref a)])) rfl rfl (hb hby own_d6_19) tq_ kq_) ?_
  show own_Go p e below T37 (mkF m 20 #[.val (.ref this)] [(.int z)]) _
  refine own_retI X37 hx hret hlk (hb hby own_d6_20) (by decide) (by decide) ?_
  exact ⟨rfl, N0, e37⟩
theorem own_pick_b (u0 u1 : Int32) (hu : 0 ≤ u1.toInt) : (own_pick u0 u1 + (1 : Int32)).toInt = (u0.toInt % 2 ^ 31) % (u1.toInt + 1) := by
  unfold own_pick
  have hb := u1.toInt_lt
  have e1 : (u0 &&& (2147483647 : Int32)).toInt = u0.toInt % 2 ^ 31 := Jvm.Kit.i32_mask u0 _ (k := 31) (by decide) (by decide)
  have e3 : (u0 &&& (2147483647 : Int32)).toInt64.toInt = u0.toInt % 2 ^ 31 := by rw [Jvm.Kit.i64_of_i32, e1]
  have e2 : (((u0 &&& (2147483647 : Int32)).toInt64) % ((u1.toInt64) + (1 : Int64))).toInt = (u0.toInt % 2 ^ 31) % (u1.toInt + 1) := by
    rw [← own_lrem_eq, Jvm.Kit.i64_rem_nonneg (by omega), e3, own_rg u1 hu]
  have h1 : 0 ≤ (u0.toInt % 2 ^ 31) % (u1.toInt + 1) := Int.emod_nonneg _ (by omega)
  have h2 : (u0.toInt % 2 ^ 31) % (u1.toInt + 1) < u1.toInt + 1 := Int.emod_lt_of_pos _ (by omega)
  rw [Int32.sub_add_cancel, Jvm.Kit.i32_of_i64 (by omega) (by omega), e2]
theorem own_pick_n (u0 u1 : Int32) (hu : 0 ≤ u1.toInt) (hm : ¬ (65535 : Int32) < u1) : nar .char ((own_pick u0 u1 + (1 : Int32)).toUInt32.toUInt16.toUInt32.toInt32) = (own_pick u0 u1 + (1 : Int32)) := by
  have e := own_pick_b u0 u1 hu
  have h1 : 0 ≤ (u0.toInt % 2 ^ 31) % (u1.toInt + 1) := Int.emod_nonneg _ (by omega)
  have h2 : (u0.toInt % 2 ^ 31) % (u1.toInt + 1) < u1.toInt + 1 := Int.emod_lt_of_pos _ (by omega)
  rw [Int32.lt_iff_toInt_lt, show (65535 : Int32).toInt = 65535 from by decide] at hm
  exact own_char (by omega) (by omega)
theorem own_cb (x : Int32) : 0 ≤ (x &&& (2147483647 : Int32)).toInt ∧ 0 ≤ (x &&& (65535 : Int32)).toInt := by
  have e1 : (x &&& (2147483647 : Int32)).toInt = x.toInt % 2 ^ 31 := Jvm.Kit.i32_mask x _ (k := 31) (by decide) (by decide)
  have e2 : (x &&& (65535 : Int32)).toInt = x.toInt % 2 ^ 16 := Jvm.Kit.i32_mask x _ (k := 16) (by decide) (by decide)
  omega
theorem own_i3 (x : Int32) : ((x &&& (255 : Int32)) % (3 : Int32)) = 0 ∨ ((x &&& (255 : Int32)) % (3 : Int32)) = 1 ∨ ((x &&& (255 : Int32)) % (3 : Int32)) = 2 := by
  have e1 : (x &&& (255 : Int32)).toInt = x.toInt % 2 ^ 8 := Jvm.Kit.i32_mask x _ (k := 8) (by decide) (by decide)
  have e2 : ((x &&& (255 : Int32)) % (3 : Int32)).toInt = (x.toInt % 2 ^ 8) % 3 := by rw [Jvm.Kit.i32_rem_nonneg (by omega), e1, show (3 : Int32).toInt = 3 from by decide]
  simp only [← Int32.toInt_inj, e2, show (0 : Int32).toInt = 0 from by decide, show (1 : Int32).toInt = 1 from by decide, show (2 : Int32).toInt = 2 from by decide]
  omega
theorem own_as (s : Int32) : s + (1 : Int32) - (1 : Int32) = s := Int32.add_sub_cancel s 1
theorem own_pd_0 : parseMethodDescriptor "(II)I" = some ⟨[.int, .int], some .int⟩ := by decide +kernel
theorem own_pd_1 : parseMethodDescriptor "(II)V" = some ⟨[.int, .int], none⟩ := by decide +kernel
theorem own_pd_3 : parseMethodDescriptor "(I)I" = some ⟨[.int], some .int⟩ := by decide +kernel
theorem own_pd_4 : parseMethodDescriptor "()I" = some ⟨[], some .int⟩ := by decide +kernel
set_option maxRecDepth 65536 in
set_option maxHeartbeats 40000000 in
theorem own_p33 {p : Program} {l : Launch} {e : Env} {s : State} {m : MethodId} {args : Array Value} {below : List Frame} {meth : Method} {c : Code} {Z : State} {a0 : Array Value} {n0 : Nat} (hx : p.tables.exec = Jvm.exec) (hZ : Z.Warmed39 s.vm) (hw : ∀ d ∈ tables_1, d.before a0 Z = true) (hby : c.code = code) (hml : c.maxLocals = 15) (hown : s.vm.findClass "com/example/tallymark/tallymark/SlotArraySetPinLaw" = some m.cls) (hnm : meth.name = "law") (hret : meth.sig.returnType = (some .boolean)) (hlk : meth.locks = false) (c0 i0 s0 t0 u0 nb cp : Int32) {T0 : State} {locs : List Loc} {h0 : Heap} (X0 : Stand p l e room_1 s m args below meth c T0 locs 0 0) (e0 : T0.heap = h0) (N0 : Fr n0 locs) (Z0 : n0 ≤ h0.size) (hcb : 0 ≤ cp.toInt) :
    own_Go p e below T0 (mkF m 33 #[.val (.int c0), .val (.int i0), .val (.int s0), .val (.int t0), .val (.int u0), .val (.int nb), .val (.int cp), .unset, .unset, .unset, .unset, .unset, .unset, .unset, .unset] []) (own_Fin s (fun (v : Option Value) (h : Heap) (L : List Loc) => v = some (.int 1) ∧ Fr n0 L) 16 128) := by
  show own_Go p e below T0 (mkF m 33 #[.val (.int c0), .val (.int i0), .val (.int s0), .val (.int t0), .val (.int u0), .val (.int nb), .val (.int cp), .unset, .unset, .unset, .unset, .unset, .unset, .unset, .unset] []) _
  refine own_s_iloadN X0.here hx (hb hby at_33) rfl ?_
  refine own_s_sipush X0.here hx (255 : Int32) (hb hby at_34) rfl ?_
  refine own_s_iand X0.here hx (hb hby at_37) ?_
  refine own_s_iconst X0.here hx (3 : Int32) (hb hby at_38) rfl ?_
  refine own_by (fun tq_ kq_ => iremM X0 hx rfl (hb hby at_39) rfl (by decide) kq_) ?_
  show own_Go p e below T0 (mkF m 40 #[.val (.int c0), .val (.int i0), .val (.int s0), .val (.int t0), .val (.int u0), .val (.int nb), .val (.int cp), .unset, .unset, .unset, .unset, .unset, .unset, .unset, .unset] [(.int ((i0 &&& (255 : Int32)) % (3 : Int32)))]) _
  refine own_s_istore X0.here hx #[.val (.int c0), .val (.int i0), .val (.int s0), .val (.int t0), .val (.int u0), .val (.int nb), .val (.int cp), .val (.int ((i0 &&& (255 : Int32)) % (3 : Int32))), .unset, .unset, .unset, .unset, .unset, .unset, .unset] (hb hby at_40) rfl ?_
  have hi3 := own_i3 i0
  generalize ((i0 &&& (255 : Int32)) % (3 : Int32)) = iq at hi3 ⊢
  rcases hi3 with rfl | rfl | rfl
  ·
    show own_Go p e below T0 (mkF m 42 #[.val (.int c0), .val (.int i0), .val (.int s0), .val (.int t0), .val (.int u0), .val (.int nb), .val (.int cp), .val (.int (0 : Int32)), .unset, .unset, .unset, .unset, .unset, .unset, .unset] []) _
    refine own_s_iload X0.here hx (hb hby at_42) rfl ?_
    refine own_s_iconst X0.here hx (1 : Int32) (hb hby at_44) rfl ?_
    refine own_s_iadd X0.here hx (hb hby at_45) ?_
    refine own_s_iconst X0.here hx (3 : Int32) (hb hby at_46) rfl ?_
    refine own_by (fun tq_ kq_ => iremM X0 hx rfl (hb hby at_47) rfl (by decide) kq_) ?_
    show own_Go p e below T0 (mkF m 48 #[.val (.int c0), .val (.int i0), .val (.int s0), .val (.int t0), .val (.int u0), .val (.int nb), .val (.int cp), .val (.int (0 : Int32)), .unset, .unset, .unset, .unset, .unset, .unset, .unset] [(.int (((0 : Int32) + (1 : Int32)) % (3 : Int32)))]) _
    refine own_s_istore X0.here hx #[.val (.int c0), .val (.int i0), .val (.int s0), .val (.int t0), .val (.int u0), .val (.int nb), .val (.int cp), .val (.int (0 : Int32)), .val (.int (((0 : Int32) + (1 : Int32)) % (3 : Int32))), .unset, .unset, .unset, .unset, .unset, .unset] (hb hby at_48) rfl ?_
    show own_Go p e below T0 (mkF m 50 #[.val (.int c0), .val (.int i0), .val (.int s0), .val (.int t0), .val (.int u0), .val (.int nb), .val (.int cp), .val (.int (0 : Int32)), .val (.int (1 : Int32)), .unset, .unset, .unset, .unset, .unset, .unset] []) _
    refine own_s_iload X0.here hx (hb hby at_50) rfl ?_
    refine own_s_iconst X0.here hx (2 : Int32) (hb hby at_52) rfl ?_
    refine own_s_iadd X0.here hx (hb hby at_53) ?_
    refine own_s_iconst X0.here hx (3 : Int32) (hb hby at_54) rfl ?_
    refine own_by (fun tq_ kq_ => iremM X0 hx rfl (hb hby at_55) rfl (by decide) kq_) ?_
    show own_Go p e below T0 (mkF m 56 #[.val (.int c0), .val (.int i0), .val (.int s0), .val (.int t0), .val (.int u0), .val (.int nb), .val (.int cp), .val (.int (0 : Int32)), .val (.int (1 : Int32)), .unset, .unset, .unset, .unset, .unset, .unset] [(.int (((0 : Int32) + (2 : Int32)) % (3 : Int32)))]) _
    refine own_s_istore X0.here hx #[.val (.int c0), .val (.int i0), .val (.int s0), .val (.int t0), .val (.int u0), .val (.int nb), .val (.int cp), .val (.int (0 : Int32)), .val (.int (1 : Int32)), .val (.int (((0 : Int32) + (2 : Int32)) % (3 : Int32))), .unset, .unset, .unset, .unset, .unset] (hb hby at_56) rfl ?_
    show own_Go p e below T0 (mkF m 58 #[.val (.int c0), .val (.int i0), .val (.int s0), .val (.int t0), .val (.int u0), .val (.int nb), .val (.int cp), .val (.int (0 : Int32)), .val (.int (1 : Int32)), .val (.int (2 : Int32)), .unset, .unset, .unset, .unset, .unset] []) _
    refine own_s_iloadN X0.here hx (hb hby at_58) rfl ?_
    refine own_s_iload X0.here hx (hb hby at_59) rfl ?_
    obtain ⟨_, _, ⟨T38, L38, k38, n38⟩, -, X38, ⟨Lc38, hQ38, l38, y38, z38⟩, st38⟩ := Jvm.LawKit.callS X0 hx (y := (⟨"com/example/tallymark/tallymark/SlotArraySetPinLaw", "slotIn", "(II)I"⟩ : MethodName)) hown (mvT hZ (hw _ (List.mem_of_getElem? (i := 1) rfl))) (mvT hZ (hw _ (List.mem_of_getElem? (i := 2) rfl))) (mvT hZ (hw _ (List.mem_of_getElem? (i := 3) rfl))) (mvT hZ (hw _ (List.mem_of_getElem? (i := 4) rfl))) (by decide) (backOf (W := 0) (own_r1 l Z a0 hw [] s0 cp  h0 n0 Z0 hcb) hZ (hw _ (List.mem_of_getElem? (i := 4) rfl)) (hw _ (List.mem_of_getElem? (i := 3) rfl)) (by decide) (by decide)) (g := (mkF m 61 #[.val (.int c0), .val (.int i0), .val (.int s0), .val (.int t0), .val (.int u0), .val (.int nb), .val (.int cp), .val (.int (0 : Int32)), .val (.int (1 : Int32)), .val (.int (2 : Int32)), .unset, .unset, .unset, .unset, .unset] [(.int cp), (.int s0)])) rfl (by rw [hml]; rfl) (argsL := [(.int s0), (.int cp)]) (rest := []) (lenOf own_pd_0 rfl) rfl (by show 2 * 0 + _ ≤ _; exact Nat.le_of_eq rfl) (hb hby at_61) (fun _ _ => ⟨rfl, e0, (by decide : 0 + 0 ≤ _), (by decide : 0 + 0 ≤ _)⟩)
    dsimp only [Pt.U, Pt.locs, Pt.cells, Pt.slots] at X38 l38 y38 z38 st38 hQ38
    subst l38 y38 z38
    obtain ⟨rfl, N38q, e38⟩ := hQ38
    have N38 := Fr.app N0 N38q
    refine own_by st38 ?_
    show own_Go p e below T38 (mkF m 64 #[.val (.int c0), .val (.int i0), .val (.int s0), .val (.int t0), .val (.int u0), .val (.int nb), .val (.int cp), .val (.int (0 : Int32)), .val (.int (1 : Int32)), .val (.int (2 : Int32)), .unset, .unset, .unset, .unset, .unset] [(.int (own_pick s0 cp))]) _
    refine own_s_istore X38.here hx #[.val (.int c0), .val (.int i0), .val (.int s0), .val (.int t0), .val (.int u0), .val (.int nb), .val (.int cp), .val (.int (0 : Int32)), .val (.int (1 : Int32)), .val (.int (2 : Int32)), .val (.int (own_pick s0 cp)), .unset, .unset, .unset, .unset] (hb hby at_64) rfl ?_
    generalize hsv : (own_pick s0 cp) = sv
    show own_Go p e below T38 (mkF m 66 #[.val (.int c0), .val (.int i0), .val (.int s0), .val (.int t0), .val (.int u0), .val (.int nb), .val (.int cp), .val (.int (0 : Int32)), .val (.int (1 : Int32)), .val (.int (2 : Int32)), .val (.int sv), .unset, .unset, .unset, .unset] []) _
    refine own_s_iloadN X38.here hx (hb hby at_66) rfl ?_
    refine own_s_iload X38.here hx (hb hby at_67) rfl ?_
    obtain ⟨_, _, ⟨T39, L39, k39, n39⟩, -, X39, ⟨Lc39, hQ39, l39, y39, z39⟩, st39⟩ := Jvm.LawKit.callS X38 hx (y := (⟨"com/example/tallymark/tallymark/SlotArraySetPinLaw", "slotIn", "(II)I"⟩ : MethodName)) hown (mvT hZ (hw _ (List.mem_of_getElem? (i := 1) rfl))) (mvT hZ (hw _ (List.mem_of_getElem? (i := 2) rfl))) (mvT hZ (hw _ (List.mem_of_getElem? (i := 3) rfl))) (mvT hZ (hw _ (List.mem_of_getElem? (i := 4) rfl))) (by decide) (backOf (W := 0) (own_r1 l Z a0 hw [] t0 cp  h0 n0 Z0 hcb) hZ (hw _ (List.mem_of_getElem? (i := 4) rfl)) (hw _ (List.mem_of_getElem? (i := 3) rfl)) (by decide) (by decide)) (g := (mkF m 69 #[.val (.int c0), .val (.int i0), .val (.int s0), .val (.int t0), .val (.int u0), .val (.int nb), .val (.int cp), .val (.int (0 : Int32)), .val (.int (1 : Int32)), .val (.int (2 : Int32)), .val (.int sv), .unset, .unset, .unset, .unset] [(.int cp), (.int t0)])) rfl (by rw [hml]; rfl) (argsL := [(.int t0), (.int cp)]) (rest := []) (lenOf own_pd_0 rfl) rfl (by show 2 * 0 + _ ≤ _; exact Nat.le_of_eq rfl) (hb hby at_69) (fun _ _ => ⟨rfl, e38, (by decide : 0 + 0 ≤ _), (by decide : 0 + 0 ≤ _)⟩)
    dsimp only [Pt.U, Pt.locs, Pt.cells, Pt.slots] at X39 l39 y39 z39 st39 hQ39
    subst l39 y39 z39
    obtain ⟨rfl, N39q, e39⟩ := hQ39
    have N39 := Fr.app N38 N39q
    refine own_by st39 ?_
    show own_Go p e below T39 (mkF m 72 #[.val (.int c0), .val (.int i0), .val (.int s0), .val (.int t0), .val (.int u0), .val (.int nb), .val (.int cp), .val (.int (0 : Int32)), .val (.int (1 : Int32)), .val (.int (2 : Int32)), .val (.int sv), .unset, .unset, .unset, .unset] [(.int (own_pick t0 cp))]) _
    refine own_s_istore X39.here hx #[.val (.int c0), .val (.int i0), .val (.int s0), .val (.int t0), .val (.int u0), .val (.int nb), .val (.int cp), .val (.int (0 : Int32)), .val (.int (1 : Int32)), .val (.int (2 : Int32)), .val (.int sv), .val (.int (own_pick t0 cp)), .unset, .unset, .unset] (hb hby at_72) rfl ?_
    generalize htv : (own_pick t0 cp) = tv
    show own_Go p e below T39 (mkF m 74 #[.val (.int c0), .val (.int i0), .val (.int s0), .val (.int t0), .val (.int u0), .val (.int nb), .val (.int cp), .val (.int (0 : Int32)), .val (.int (1 : Int32)), .val (.int (2 : Int32)), .val (.int sv), .val (.int tv), .unset, .unset, .unset] []) _
    refine own_s_iload X39.here hx (hb hby at_74) rfl ?_
    refine own_s_iload X39.here hx (hb hby at_76) rfl ?_
    obtain ⟨_, _, ⟨T40, L40, k40, n40⟩, -, X40, ⟨Lc40, hQ40, l40, y40, z40⟩, st40⟩ := Jvm.LawKit.callS X39 hx (y := (⟨"com/example/tallymark/tallymark/SlotArraySetPinLaw", "slotIn", "(II)I"⟩ : MethodName)) hown (mvT hZ (hw _ (List.mem_of_getElem? (i := 1) rfl))) (mvT hZ (hw _ (List.mem_of_getElem? (i := 2) rfl))) (mvT hZ (hw _ (List.mem_of_getElem? (i := 3) rfl))) (mvT hZ (hw _ (List.mem_of_getElem? (i := 4) rfl))) (by decide) (backOf (W := 0) (own_r1 l Z a0 hw [] u0 cp  h0 n0 Z0 hcb) hZ (hw _ (List.mem_of_getElem? (i := 4) rfl)) (hw _ (List.mem_of_getElem? (i := 3) rfl)) (by decide) (by decide)) (g := (mkF m 78 #[.val (.int c0), .val (.int i0), .val (.int s0), .val (.int t0), .val (.int u0), .val (.int nb), .val (.int cp), .val (.int (0 : Int32)), .val (.int (1 : Int32)), .val (.int (2 : Int32)), .val (.int sv), .val (.int tv), .unset, .unset, .unset] [(.int cp), (.int u0)])) rfl (by rw [hml]; rfl) (argsL := [(.int u0), (.int cp)]) (rest := []) (lenOf own_pd_0 rfl) rfl (by show 2 * 0 + _ ≤ _; exact Nat.le_of_eq rfl) (hb hby at_78) (fun _ _ => ⟨rfl, e39, (by decide : 0 + 0 ≤ _), (by decide : 0 + 0 ≤ _)⟩)
    dsimp only [Pt.U, Pt.locs, Pt.cells, Pt.slots] at X40 l40 y40 z40 st40 hQ40
    subst l40 y40 z40
    obtain ⟨rfl, N40q, e40⟩ := hQ40
    have N40 := Fr.app N39 N40q
    refine own_by st40 ?_
    show own_Go p e below T40 (mkF m 81 #[.val (.int c0), .val (.int i0), .val (.int s0), .val (.int t0), .val (.int u0), .val (.int nb), .val (.int cp), .val (.int (0 : Int32)), .val (.int (1 : Int32)), .val (.int (2 : Int32)), .val (.int sv), .val (.int tv), .unset, .unset, .unset] [(.int (own_pick u0 cp))]) _
    refine own_s_istore X40.here hx #[.val (.int c0), .val (.int i0), .val (.int s0), .val (.int t0), .val (.int u0), .val (.int nb), .val (.int cp), .val (.int (0 : Int32)), .val (.int (1 : Int32)), .val (.int (2 : Int32)), .val (.int sv), .val (.int tv), .val (.int (own_pick u0 cp)), .unset, .unset] (hb hby at_81) rfl ?_
    generalize huv : (own_pick u0 cp) = uv
    show own_Go p e below T40 (mkF m 83 #[.val (.int c0), .val (.int i0), .val (.int s0), .val (.int t0), .val (.int u0), .val (.int nb), .val (.int cp), .val (.int (0 : Int32)), .val (.int (1 : Int32)), .val (.int (2 : Int32)), .val (.int sv), .val (.int tv), .val (.int uv), .unset, .unset] []) _
    by_cases hm : (65535 : Int32) < cp
    ·
      obtain ⟨T41, h41, X41, e41, E41, A41, D41, -, st41⟩ := newO X40 hx hZ hown (hw _ (List.mem_of_getElem? (i := 5) rfl)) (hw _ (List.mem_of_getElem? (i := 6) rfl)) (hw _ (List.mem_of_getElem? (i := 7) rfl)) e40 (g := (mkF m 83 #[.val (.int c0), .val (.int i0), .val (.int s0), .val (.int t0), .val (.int u0), .val (.int nb), .val (.int cp), .val (.int (0 : Int32)), .val (.int (1 : Int32)), .val (.int (2 : Int32)), .val (.int sv), .val (.int tv), .val (.int uv), .unset, .unset] [])) rfl (hb hby at_83) (by decide) (by decide)
      obtain ⟨b41, g41⟩ : ∃ z, z = h0.size := ⟨_, rfl⟩
      rw [← g41] at A41 D41 st41
      have ge_b41 : n0 ≤ b41 := Nat.le_trans Z0 (Nat.le_of_eq g41.symm)
      have SZ41 : n0 ≤ h41.size := Nat.le_trans Z0 E41.1
      have f42 : Fld Z h41 b41 "com/example/tallymark/tallymark/SlotArray" "narrow" "[C" .null := D41 (Or.inl (hw _ (List.mem_of_getElem? (i := 17) rfl))) (ty := (.array .char)) (by decide)
      have f43 : Fld Z h41 b41 "com/example/tallymark/tallymark/SlotArray" "wide" "[I" .null := D41 (Or.inl (hw _ (List.mem_of_getElem? (i := 35) rfl))) (ty := (.array .int)) (by decide)
      refine own_by st41 ?_
      show own_Go p e below T41 (mkF m 86 #[.val (.int c0), .val (.int i0), .val (.int s0), .val (.int t0), .val (.int u0), .val (.int nb), .val (.int cp), .val (.int (0 : Int32)), .val (.int (1 : Int32)), .val (.int (2 : Int32)), .val (.int sv), .val (.int tv), .val (.int uv), .unset, .unset] [(.ref b41)]) _
      refine own_s_dup X41.here hx (hb hby at_86) rfl ?_
      refine own_s_iload X41.here hx (hb hby at_87) rfl ?_
      refine own_s_iconst X41.here hx (3 : Int32) (hb hby at_89) rfl ?_
      obtain ⟨_, _, ⟨T44, L44, k44, n44⟩, -, X44, ⟨Lc44, hQ44, l44, y44, z44⟩, st44⟩ := X41.specialBack hx (y := (⟨"com/example/tallymark/tallymark/SlotArray", "<init>", "(II)V"⟩ : MethodName)) rfl hown (mvT hZ (hw _ (List.mem_of_getElem? (i := 8) rfl))) (mvT hZ (hw _ (List.mem_of_getElem? (i := 9) rfl))) (mvT hZ (hw _ (List.mem_of_getElem? (i := 10) rfl))) (by decide) (backOf (W := 1) (own_iniw l Z a0 hw [] b41 cp (3 : Int32) 3 h41 n0 SZ41 hm rfl (by decide) (by decide) A41 f42 f43 ge_b41) hZ (hw _ (List.mem_of_getElem? (i := 10) rfl)) (hw _ (List.mem_of_getElem? (i := 7) rfl)) (by decide) (by decide)) (g := (mkF m 90 #[.val (.int c0), .val (.int i0), .val (.int s0), .val (.int t0), .val (.int u0), .val (.int nb), .val (.int cp), .val (.int (0 : Int32)), .val (.int (1 : Int32)), .val (.int (2 : Int32)), .val (.int sv), .val (.int tv), .val (.int uv), .unset, .unset] [(.int (3 : Int32)), (.int cp), (.ref b41), (.ref b41)])) rfl (by rw [hml]; rfl) (Steps.refl _) (a := b41) (argsL := [(.int cp), (.int (3 : Int32))]) (rest := [(.ref b41)]) (lenOf own_pd_1 rfl) rfl (by show 2 * 0 + _ ≤ _; exact Nat.le_of_eq rfl) (hb hby at_90) (fun _ _ => ⟨rfl, e41, (by decide : 1 + 1 ≤ _), (by decide : 2 + 8 ≤ _)⟩)
      dsimp only [Pt.U, Pt.locs, Pt.cells, Pt.slots] at X44 l44 y44 z44 st44 hQ44
      subst l44 y44 z44
      obtain ⟨rfl, N44q, K44, a44, ga44, na44, fn44, fa44, fz44⟩ := hQ44
      have N44 := Fr.app N40 N44q
      have f45 := A41.keep K44
      have SZ44 : n0 ≤ T44.heap.size := Nat.le_trans SZ41 K44.1
      refine own_by (fun t k => st44.trans k) ?_
      show own_Go p e below T44 (mkF m 93 #[.val (.int c0), .val (.int i0), .val (.int s0), .val (.int t0), .val (.int u0), .val (.int nb), .val (.int cp), .val (.int (0 : Int32)), .val (.int (1 : Int32)), .val (.int (2 : Int32)), .val (.int sv), .val (.int tv), .val (.int uv), .unset, .unset] [(.ref b41)]) _
      refine own_s_astore X44.here hx #[.val (.int c0), .val (.int i0), .val (.int s0), .val (.int t0), .val (.int u0), .val (.int nb), .val (.int cp), .val (.int (0 : Int32)), .val (.int (1 : Int32)), .val (.int (2 : Int32)), .val (.int sv), .val (.int tv), .val (.int uv), .val (.ref b41), .unset] (hb hby at_93) rfl rfl ?_
      refine own_s_aload X44.here hx (hb hby at_95) rfl rfl ?_
      refine own_s_iload X44.here hx (hb hby at_97) rfl ?_
      refine own_s_iload X44.here hx (hb hby at_99) rfl ?_
      obtain ⟨cq46, kq46, q46a, q46b, q46c⟩ := isOf hZ rfl f45
      obtain ⟨_, _, ⟨T46, L46, k46, n46⟩, -, X46, ⟨Lc46, hQ46, l46, y46, z46⟩, st46⟩ := X44.virtualBack hx (y := (⟨"com/example/tallymark/tallymark/SlotArray", "set", "(II)V"⟩ : MethodName)) (z := (⟨"com/example/tallymark/tallymark/SlotArray", "set", "(II)V"⟩ : MethodName)) hown (mvT hZ (hw _ (List.mem_of_getElem? (i := 18) rfl))) (mvT hZ (hw _ (List.mem_of_getElem? (i := 19) rfl))) (notFace_of_selects (args := #[]) (mvT hZ (hw _ (List.mem_of_getElem? (i := 21) rfl)))) (mvT hZ (hw _ (List.mem_of_getElem? (i := 21) rfl))) (mvT hZ (hw _ (List.mem_of_getElem? (i := 20) rfl))) (by decide) (backOf (W := 0) (own_setw l Z a0 hw [] b41 (0 : Int32) tv a44 3 0 (fun _ => (.int (0 : Int32))) T44.heap n0 SZ44 (by decide) (by decide) fn44 fz44 fa44 ga44 na44) hZ (hw _ (List.mem_of_getElem? (i := 22) rfl)) (hw _ (List.mem_of_getElem? (i := 7) rfl)) (by decide) (by decide)) q46a q46c (g := (mkF m 101 #[.val (.int c0), .val (.int i0), .val (.int s0), .val (.int t0), .val (.int u0), .val (.int nb), .val (.int cp), .val (.int (0 : Int32)), .val (.int (1 : Int32)), .val (.int (2 : Int32)), .val (.int sv), .val (.int tv), .val (.int uv), .val (.ref b41), .unset] [(.int tv), (.int (0 : Int32)), (.ref b41)])) rfl (by rw [hml]; rfl) (Steps.refl _) (argsL := [(.int (0 : Int32)), (.int tv)]) (rest := []) (lenOf own_pd_1 rfl) rfl (by show 2 * 0 + _ ≤ _; exact Nat.le_of_eq rfl) (hb hby at_101) (fun _ _ => ⟨rfl, rfl, (by decide : 2 + 0 ≤ _), (by decide : 10 + 0 ≤ _)⟩)
      dsimp only [Pt.U, Pt.locs, Pt.cells, Pt.slots] at X46 l46 y46 z46 st46 hQ46
      subst l46 y46 z46
      obtain ⟨rfl, N46q, K46, fa46⟩ := hQ46
      have N46 := Fr.app N44 N46q
      have f47 := f45.keep K46
      have f48 := fn44.keep K46 (ninS na44 nin0)
      have f49 := fz44.keep K46 (ninS na44 nin0)
      have SZ46 : n0 ≤ T46.heap.size := Nat.le_trans SZ44 K46.1
      refine own_by (fun t k => st46.trans k) ?_
      show own_Go p e below T46 (mkF m 104 #[.val (.int c0), .val (.int i0), .val (.int s0), .val (.int t0), .val (.int u0), .val (.int nb), .val (.int cp), .val (.int (0 : Int32)), .val (.int (1 : Int32)), .val (.int (2 : Int32)), .val (.int sv), .val (.int tv), .val (.int uv), .val (.ref b41), .unset] []) _
      refine own_s_aload X46.here hx (hb hby at_104) rfl rfl ?_
      refine own_s_iload X46.here hx (hb hby at_106) rfl ?_
      refine own_s_iload X46.here hx (hb hby at_108) rfl ?_
      obtain ⟨cq50, kq50, q50a, q50b, q50c⟩ := isOf hZ rfl f47
      obtain ⟨_, _, ⟨T50, L50, k50, n50⟩, -, X50, ⟨Lc50, hQ50, l50, y50, z50⟩, st50⟩ := X46.virtualBack hx (y := (⟨"com/example/tallymark/tallymark/SlotArray", "set", "(II)V"⟩ : MethodName)) (z := (⟨"com/example/tallymark/tallymark/SlotArray", "set", "(II)V"⟩ : MethodName)) hown (mvT hZ (hw _ (List.mem_of_getElem? (i := 18) rfl))) (mvT hZ (hw _ (List.mem_of_getElem? (i := 19) rfl))) (notFace_of_selects (args := #[]) (mvT hZ (hw _ (List.mem_of_getElem? (i := 21) rfl)))) (mvT hZ (hw _ (List.mem_of_getElem? (i := 21) rfl))) (mvT hZ (hw _ (List.mem_of_getElem? (i := 20) rfl))) (by decide) (backOf (W := 0) (own_setw l Z a0 hw [] b41 (1 : Int32) uv a44 3 1 (own_upd (fun _ => (.int (0 : Int32))) 0 (.int (tv + (1 : Int32)))) T46.heap n0 SZ46 (by decide) (by decide) f48 f49 fa46 ga44 na44) hZ (hw _ (List.mem_of_getElem? (i := 22) rfl)) (hw _ (List.mem_of_getElem? (i := 7) rfl)) (by decide) (by decide)) q50a q50c (g := (mkF m 110 #[.val (.int c0), .val (.int i0), .val (.int s0), .val (.int t0), .val (.int u0), .val (.int nb), .val (.int cp), .val (.int (0 : Int32)), .val (.int (1 : Int32)), .val (.int (2 : Int32)), .val (.int sv), .val (.int tv), .val (.int uv), .val (.ref b41), .unset] [(.int uv), (.int (1 : Int32)), (.ref b41)])) rfl (by rw [hml]; rfl) (Steps.refl _) (argsL := [(.int (1 : Int32)), (.int uv)]) (rest := []) (lenOf own_pd_1 rfl) rfl (by show 2 * 0 + _ ≤ _; exact Nat.le_of_eq rfl) (hb hby at_110) (fun _ _ => ⟨rfl, rfl, (by decide : 2 + 0 ≤ _), (by decide : 10 + 0 ≤ _)⟩)
      dsimp only [Pt.U, Pt.locs, Pt.cells, Pt.slots] at X50 l50 y50 z50 st50 hQ50
      subst l50 y50 z50
      obtain ⟨rfl, N50q, K50, fa50⟩ := hQ50
      have N50 := Fr.app N46 N50q
      have f51 := f47.keep K50
      have f52 := f48.keep K50 (ninS na44 nin0)
      have f53 := f49.keep K50 (ninS na44 nin0)
      have SZ50 : n0 ≤ T50.heap.size := Nat.le_trans SZ46 K50.1
      refine own_by (fun t k => st50.trans k) ?_
      show own_Go p e below T50 (mkF m 113 #[.val (.int c0), .val (.int i0), .val (.int s0), .val (.int t0), .val (.int u0), .val (.int nb), .val (.int cp), .val (.int (0 : Int32)), .val (.int (1 : Int32)), .val (.int (2 : Int32)), .val (.int sv), .val (.int tv), .val (.int uv), .val (.ref b41), .unset] []) _
      refine own_s_aload X50.here hx (hb hby at_113) rfl rfl ?_
      refine own_s_iload X50.here hx (hb hby at_115) rfl ?_
      refine own_s_iload X50.here hx (hb hby at_117) rfl ?_
      obtain ⟨cq54, kq54, q54a, q54b, q54c⟩ := isOf hZ rfl f51
      obtain ⟨_, _, ⟨T54, L54, k54, n54⟩, -, X54, ⟨Lc54, hQ54, l54, y54, z54⟩, st54⟩ := X50.virtualBack hx (y := (⟨"com/example/tallymark/tallymark/SlotArray", "set", "(II)V"⟩ : MethodName)) (z := (⟨"com/example/tallymark/tallymark/SlotArray", "set", "(II)V"⟩ : MethodName)) hown (mvT hZ (hw _ (List.mem_of_getElem? (i := 18) rfl))) (mvT hZ (hw _ (List.mem_of_getElem? (i := 19) rfl))) (notFace_of_selects (args := #[]) (mvT hZ (hw _ (List.mem_of_getElem? (i := 21) rfl)))) (mvT hZ (hw _ (List.mem_of_getElem? (i := 21) rfl))) (mvT hZ (hw _ (List.mem_of_getElem? (i := 20) rfl))) (by decide) (backOf (W := 0) (own_setw l Z a0 hw [] b41 (0 : Int32) sv a44 3 0 (own_upd (own_upd (fun _ => (.int (0 : Int32))) 0 (.int (tv + (1 : Int32)))) 1 (.int (uv + (1 : Int32)))) T50.heap n0 SZ50 (by decide) (by decide) f52 f53 fa50 ga44 na44) hZ (hw _ (List.mem_of_getElem? (i := 22) rfl)) (hw _ (List.mem_of_getElem? (i := 7) rfl)) (by decide) (by decide)) q54a q54c (g := (mkF m 119 #[.val (.int c0), .val (.int i0), .val (.int s0), .val (.int t0), .val (.int u0), .val (.int nb), .val (.int cp), .val (.int (0 : Int32)), .val (.int (1 : Int32)), .val (.int (2 : Int32)), .val (.int sv), .val (.int tv), .val (.int uv), .val (.ref b41), .unset] [(.int sv), (.int (0 : Int32)), (.ref b41)])) rfl (by rw [hml]; rfl) (Steps.refl _) (argsL := [(.int (0 : Int32)), (.int sv)]) (rest := []) (lenOf own_pd_1 rfl) rfl (by show 2 * 0 + _ ≤ _; exact Nat.le_of_eq rfl) (hb hby at_119) (fun _ _ => ⟨rfl, rfl, (by decide : 2 + 0 ≤ _), (by decide : 10 + 0 ≤ _)⟩)
      dsimp only [Pt.U, Pt.locs, Pt.cells, Pt.slots] at X54 l54 y54 z54 st54 hQ54
      subst l54 y54 z54
      obtain ⟨rfl, N54q, K54, fa54⟩ := hQ54
      have N54 := Fr.app N50 N54q
      have f55 := f51.keep K54
      have f56 := f52.keep K54 (ninS na44 nin0)
      have f57 := f53.keep K54 (ninS na44 nin0)
      have SZ54 : n0 ≤ T54.heap.size := Nat.le_trans SZ50 K54.1
      refine own_by (fun t k => st54.trans k) ?_
      show own_Go p e below T54 (mkF m 122 #[.val (.int c0), .val (.int i0), .val (.int s0), .val (.int t0), .val (.int u0), .val (.int nb), .val (.int cp), .val (.int (0 : Int32)), .val (.int (1 : Int32)), .val (.int (2 : Int32)), .val (.int sv), .val (.int tv), .val (.int uv), .val (.ref b41), .unset] []) _
      refine own_s_aload X54.here hx (hb hby at_122) rfl rfl ?_
      refine own_s_iload X54.here hx (hb hby at_124) rfl ?_
      obtain ⟨cq58, kq58, q58a, q58b, q58c⟩ := isOf hZ rfl f55
      obtain ⟨_, _, ⟨T58, L58, k58, n58⟩, -, X58, ⟨Lc58, hQ58, l58, y58, z58⟩, st58⟩ := X54.virtualBack hx (y := (⟨"com/example/tallymark/tallymark/SlotArray", "get", "(I)I"⟩ : MethodName)) (z := (⟨"com/example/tallymark/tallymark/SlotArray", "get", "(I)I"⟩ : MethodName)) hown (mvT hZ (hw _ (List.mem_of_getElem? (i := 23) rfl))) (mvT hZ (hw _ (List.mem_of_getElem? (i := 24) rfl))) (notFace_of_selects (args := #[]) (mvT hZ (hw _ (List.mem_of_getElem? (i := 26) rfl)))) (mvT hZ (hw _ (List.mem_of_getElem? (i := 26) rfl))) (mvT hZ (hw _ (List.mem_of_getElem? (i := 25) rfl))) (by decide) (backOf (W := 0) (own_getw l Z a0 hw [] b41 (0 : Int32) a44 3 0 (own_upd (own_upd (own_upd (fun _ => (.int (0 : Int32))) 0 (.int (tv + (1 : Int32)))) 1 (.int (uv + (1 : Int32)))) 0 (.int (sv + (1 : Int32)))) (sv + (1 : Int32)) T54.heap n0 SZ54 (by decide) (by decide) rfl f56 f57 fa54) hZ (hw _ (List.mem_of_getElem? (i := 27) rfl)) (hw _ (List.mem_of_getElem? (i := 7) rfl)) (by decide) (by decide)) q58a q58c (g := (mkF m 126 #[.val (.int c0), .val (.int i0), .val (.int s0), .val (.int t0), .val (.int u0), .val (.int nb), .val (.int cp), .val (.int (0 : Int32)), .val (.int (1 : Int32)), .val (.int (2 : Int32)), .val (.int sv), .val (.int tv), .val (.int uv), .val (.ref b41), .unset] [(.int (0 : Int32)), (.ref b41)])) rfl (by rw [hml]; rfl) (Steps.refl _) (argsL := [(.int (0 : Int32))]) (rest := []) (lenOf own_pd_3 rfl) rfl (by show 2 * 0 + _ ≤ _; exact Nat.le_of_eq rfl) (hb hby at_126) (fun _ _ => ⟨rfl, rfl, (by decide : 2 + 0 ≤ _), (by decide : 10 + 0 ≤ _)⟩)
      dsimp only [Pt.U, Pt.locs, Pt.cells, Pt.slots] at X58 l58 y58 z58 st58 hQ58
      subst l58 y58 z58
      obtain ⟨rfl, N58q, e58⟩ := hQ58
      have N58 := Fr.app N54 N58q
      refine own_by (fun t k => st58.trans k) ?_
      show own_Go p e below T58 (mkF m 129 #[.val (.int c0), .val (.int i0), .val (.int s0), .val (.int t0), .val (.int u0), .val (.int nb), .val (.int cp), .val (.int (0 : Int32)), .val (.int (1 : Int32)), .val (.int (2 : Int32)), .val (.int sv), .val (.int tv), .val (.int uv), .val (.ref b41), .unset] [(.int ((sv + (1 : Int32)) - (1 : Int32)))]) _
      refine own_s_iload X58.here hx (hb hby at_129) rfl ?_
      refine own_s_icmpNo X58.here hx (hb hby at_131) (Jvm.Free.XT.ii_ne_f ((own_as _))) ?_
      refine own_s_iconst X58.here hx (1 : Int32) (hb hby at_134) rfl ?_
      show own_Go p e below T58 (mkF m 135 #[.val (.int c0), .val (.int i0), .val (.int s0), .val (.int t0), .val (.int u0), .val (.int nb), .val (.int cp), .val (.int (0 : Int32)), .val (.int (1 : Int32)), .val (.int (2 : Int32)), .val (.int sv), .val (.int tv), .val (.int uv), .val (.ref b41), .unset] [(.int (1 : Int32))]) _
      refine own_s_goto X58.here hx 139 (hb hby at_135) (by decide) (by decide) ?_
      refine own_s_istore X58.here hx #[.val (.int c0), .val (.int i0), .val (.int s0), .val (.int t0), .val (.int u0), .val (.int nb), .val (.int cp), .val (.int (0 : Int32)), .val (.int (1 : Int32)), .val (.int (2 : Int32)), .val (.int sv), .val (.int tv), .val (.int uv), .val (.ref b41), .val (.int (1 : Int32))] (hb hby at_139) rfl ?_
      refine own_s_iload X58.here hx (hb hby at_141) rfl ?_
      refine own_s_ifNo X58.here hx (hb hby at_143) (Jvm.Free.XT.i0_eq_f ((by decide))) ?_
      refine own_s_aload X58.here hx (hb hby at_146) rfl rfl ?_
      refine own_s_iload X58.here hx (hb hby at_148) rfl ?_
      obtain ⟨cq59, kq59, q59a, q59b, q59c⟩ := isOf hZ e58 f55
      obtain ⟨_, _, ⟨T59, L59, k59, n59⟩, -, X59, ⟨Lc59, hQ59, l59, y59, z59⟩, st59⟩ := X58.virtualBack hx (y := (⟨"com/example/tallymark/tallymark/SlotArray", "get", "(I)I"⟩ : MethodName)) (z := (⟨"com/example/tallymark/tallymark/SlotArray", "get", "(I)I"⟩ : MethodName)) hown (mvT hZ (hw _ (List.mem_of_getElem? (i := 23) rfl))) (mvT hZ (hw _ (List.mem_of_getElem? (i := 24) rfl))) (notFace_of_selects (args := #[]) (mvT hZ (hw _ (List.mem_of_getElem? (i := 26) rfl)))) (mvT hZ (hw _ (List.mem_of_getElem? (i := 26) rfl))) (mvT hZ (hw _ (List.mem_of_getElem? (i := 25) rfl))) (by decide) (backOf (W := 0) (own_getw l Z a0 hw [] b41 (1 : Int32) a44 3 1 (own_upd (own_upd (own_upd (fun _ => (.int (0 : Int32))) 0 (.int (tv + (1 : Int32)))) 1 (.int (uv + (1 : Int32)))) 0 (.int (sv + (1 : Int32)))) (uv + (1 : Int32)) T54.heap n0 SZ54 (by decide) (by decide) rfl f56 f57 fa54) hZ (hw _ (List.mem_of_getElem? (i := 27) rfl)) (hw _ (List.mem_of_getElem? (i := 7) rfl)) (by decide) (by decide)) q59a q59c (g := (mkF m 150 #[.val (.int c0), .val (.int i0), .val (.int s0), .val (.int t0), .val (.int u0), .val (.int nb), .val (.int cp), .val (.int (0 : Int32)), .val (.int (1 : Int32)), .val (.int (2 : Int32)), .val (.int sv), .val (.int tv), .val (.int uv), .val (.ref b41), .val (.int (1 : Int32))] [(.int (1 : Int32)), (.ref b41)])) rfl (by rw [hml]; rfl) (Steps.refl _) (argsL := [(.int (1 : Int32))]) (rest := []) (lenOf own_pd_3 rfl) rfl (by show 2 * 0 + _ ≤ _; exact Nat.le_of_eq rfl) (hb hby at_150) (fun _ _ => ⟨rfl, e58, (by decide : 2 + 0 ≤ _), (by decide : 10 + 0 ≤ _)⟩)
      dsimp only [Pt.U, Pt.locs, Pt.cells, Pt.slots] at X59 l59 y59 z59 st59 hQ59
      subst l59 y59 z59
      obtain ⟨rfl, N59q, e59⟩ := hQ59
      have N59 := Fr.app N58 N59q
      refine own_by (fun t k => st59.trans k) ?_
      show own_Go p e below T59 (mkF m 153 #[.val (.int c0), .val (.int i0), .val (.int s0), .val (.int t0), .val (.int u0), .val (.int nb), .val (.int cp), .val (.int (0 : Int32)), .val (.int (1 : Int32)), .val (.int (2 : Int32)), .val (.int sv), .val (.int tv), .val (.int uv), .val (.ref b41), .val (.int (1 : Int32))] [(.int ((uv + (1 : Int32)) - (1 : Int32)))]) _
      refine own_s_iload X59.here hx (hb hby at_153) rfl ?_
      refine own_s_icmpNo X59.here hx (hb hby at_155) (Jvm.Free.XT.ii_ne_f ((own_as _))) ?_
      refine own_s_iconst X59.here hx (1 : Int32) (hb hby at_158) rfl ?_
      show own_Go p e below T59 (mkF m 159 #[.val (.int c0), .val (.int i0), .val (.int s0), .val (.int t0), .val (.int u0), .val (.int nb), .val (.int cp), .val (.int (0 : Int32)), .val (.int (1 : Int32)), .val (.int (2 : Int32)), .val (.int sv), .val (.int tv), .val (.int uv), .val (.ref b41), .val (.int (1 : Int32))] [(.int (1 : Int32))]) _
      refine own_s_goto X59.here hx 163 (hb hby at_159) (by decide) (by decide) ?_
      refine own_s_istore X59.here hx #[.val (.int c0), .val (.int i0), .val (.int s0), .val (.int t0), .val (.int u0), .val (.int nb), .val (.int cp), .val (.int (0 : Int32)), .val (.int (1 : Int32)), .val (.int (2 : Int32)), .val (.int sv), .val (.int tv), .val (.int uv), .val (.ref b41), .val (.int (1 : Int32))] (hb hby at_163) rfl ?_
      refine own_s_iload X59.here hx (hb hby at_165) rfl ?_
      refine own_s_ifNo X59.here hx (hb hby at_167) (Jvm.Free.XT.i0_eq_f ((by decide))) ?_
      refine own_s_aload X59.here hx (hb hby at_170) rfl rfl ?_
      refine own_s_iload X59.here hx (hb hby at_172) rfl ?_
      obtain ⟨cq60, kq60, q60a, q60b, q60c⟩ := isOf hZ e59 f55
      obtain ⟨_, _, ⟨T60, L60, k60, n60⟩, -, X60, ⟨Lc60, hQ60, l60, y60, z60⟩, st60⟩ := X59.virtualBack hx (y := (⟨"com/example/tallymark/tallymark/SlotArray", "get", "(I)I"⟩ : MethodName)) (z := (⟨"com/example/tallymark/tallymark/SlotArray", "get", "(I)I"⟩ : MethodName)) hown (mvT hZ (hw _ (List.mem_of_getElem? (i := 23) rfl))) (mvT hZ (hw _ (List.mem_of_getElem? (i := 24) rfl))) (notFace_of_selects (args := #[]) (mvT hZ (hw _ (List.mem_of_getElem? (i := 26) rfl)))) (mvT hZ (hw _ (List.mem_of_getElem? (i := 26) rfl))) (mvT hZ (hw _ (List.mem_of_getElem? (i := 25) rfl))) (by decide) (backOf (W := 0) (own_getw l Z a0 hw [] b41 (2 : Int32) a44 3 2 (own_upd (own_upd (own_upd (fun _ => (.int (0 : Int32))) 0 (.int (tv + (1 : Int32)))) 1 (.int (uv + (1 : Int32)))) 0 (.int (sv + (1 : Int32)))) (0 : Int32) T54.heap n0 SZ54 (by decide) (by decide) rfl f56 f57 fa54) hZ (hw _ (List.mem_of_getElem? (i := 27) rfl)) (hw _ (List.mem_of_getElem? (i := 7) rfl)) (by decide) (by decide)) q60a q60c (g := (mkF m 174 #[.val (.int c0), .val (.int i0), .val (.int s0), .val (.int t0), .val (.int u0), .val (.int nb), .val (.int cp), .val (.int (0 : Int32)), .val (.int (1 : Int32)), .val (.int (2 : Int32)), .val (.int sv), .val (.int tv), .val (.int uv), .val (.ref b41), .val (.int (1 : Int32))] [(.int (2 : Int32)), (.ref b41)])) rfl (by rw [hml]; rfl) (Steps.refl _) (argsL := [(.int (2 : Int32))]) (rest := []) (lenOf own_pd_3 rfl) rfl (by show 2 * 0 + _ ≤ _; exact Nat.le_of_eq rfl) (hb hby at_174) (fun _ _ => ⟨rfl, e59, (by decide : 2 + 0 ≤ _), (by decide : 10 + 0 ≤ _)⟩)
      dsimp only [Pt.U, Pt.locs, Pt.cells, Pt.slots] at X60 l60 y60 z60 st60 hQ60
      subst l60 y60 z60
      obtain ⟨rfl, N60q, e60⟩ := hQ60
      have N60 := Fr.app N59 N60q
      refine own_by (fun t k => st60.trans k) ?_
      show own_Go p e below T60 (mkF m 177 #[.val (.int c0), .val (.int i0), .val (.int s0), .val (.int t0), .val (.int u0), .val (.int nb), .val (.int cp), .val (.int (0 : Int32)), .val (.int (1 : Int32)), .val (.int (2 : Int32)), .val (.int sv), .val (.int tv), .val (.int uv), .val (.ref b41), .val (.int (1 : Int32))] [(.int ((0 : Int32) - (1 : Int32)))]) _
      refine own_s_iconst X60.here hx (-1 : Int32) (hb hby at_177) rfl ?_
      refine own_s_icmpNo X60.here hx (hb hby at_178) (Jvm.Free.XT.ii_ne_f ((by decide))) ?_
      refine own_s_iconst X60.here hx (1 : Int32) (hb hby at_181) rfl ?_
      show own_Go p e below T60 (mkF m 182 #[.val (.int c0), .val (.int i0), .val (.int s0), .val (.int t0), .val (.int u0), .val (.int nb), .val (.int cp), .val (.int (0 : Int32)), .val (.int (1 : Int32)), .val (.int (2 : Int32)), .val (.int sv), .val (.int tv), .val (.int uv), .val (.ref b41), .val (.int (1 : Int32))] [(.int (1 : Int32))]) _
      refine own_s_goto X60.here hx 186 (hb hby at_182) (by decide) (by decide) ?_
      refine own_s_istore X60.here hx #[.val (.int c0), .val (.int i0), .val (.int s0), .val (.int t0), .val (.int u0), .val (.int nb), .val (.int cp), .val (.int (0 : Int32)), .val (.int (1 : Int32)), .val (.int (2 : Int32)), .val (.int sv), .val (.int tv), .val (.int uv), .val (.ref b41), .val (.int (1 : Int32))] (hb hby at_186) rfl ?_
      refine own_s_iload X60.here hx (hb hby at_188) rfl ?_
      refine own_s_ifNo X60.here hx (hb hby at_190) (Jvm.Free.XT.i0_eq_f ((by decide))) ?_
      refine own_s_aload X60.here hx (hb hby at_193) rfl rfl ?_
      obtain ⟨cq61, kq61, q61a, q61b, q61c⟩ := isOf hZ e60 f55
      obtain ⟨_, _, ⟨T61, L61, k61, n61⟩, -, X61, ⟨Lc61, hQ61, l61, y61, z61⟩, st61⟩ := X60.virtualBack hx (y := (⟨"com/example/tallymark/tallymark/SlotArray", "length", "()I"⟩ : MethodName)) (z := (⟨"com/example/tallymark/tallymark/SlotArray", "length", "()I"⟩ : MethodName)) hown (mvT hZ (hw _ (List.mem_of_getElem? (i := 28) rfl))) (mvT hZ (hw _ (List.mem_of_getElem? (i := 29) rfl))) (notFace_of_selects (args := #[]) (mvT hZ (hw _ (List.mem_of_getElem? (i := 31) rfl)))) (mvT hZ (hw _ (List.mem_of_getElem? (i := 31) rfl))) (mvT hZ (hw _ (List.mem_of_getElem? (i := 30) rfl))) (by decide) (backOf (W := 0) (own_lenw l Z a0 hw [] b41 a44 3 (own_upd (own_upd (own_upd (fun _ => (.int (0 : Int32))) 0 (.int (tv + (1 : Int32)))) 1 (.int (uv + (1 : Int32)))) 0 (.int (sv + (1 : Int32)))) (3 : Int32) T54.heap n0 SZ54 rfl f56 f57 fa54) hZ (hw _ (List.mem_of_getElem? (i := 32) rfl)) (hw _ (List.mem_of_getElem? (i := 7) rfl)) (by decide) (by decide)) q61a q61c (g := (mkF m 195 #[.val (.int c0), .val (.int i0), .val (.int s0), .val (.int t0), .val (.int u0), .val (.int nb), .val (.int cp), .val (.int (0 : Int32)), .val (.int (1 : Int32)), .val (.int (2 : Int32)), .val (.int sv), .val (.int tv), .val (.int uv), .val (.ref b41), .val (.int (1 : Int32))] [(.ref b41)])) rfl (by rw [hml]; rfl) (Steps.refl _) (argsL := []) (rest := []) (lenOf own_pd_4 rfl) rfl (by show 2 * 0 + _ ≤ _; exact Nat.le_of_eq rfl) (hb hby at_195) (fun _ _ => ⟨rfl, e60, (by decide : 2 + 0 ≤ _), (by decide : 10 + 0 ≤ _)⟩)
      dsimp only [Pt.U, Pt.locs, Pt.cells, Pt.slots] at X61 l61 y61 z61 st61 hQ61
      subst l61 y61 z61
      obtain ⟨rfl, N61q, e61⟩ := hQ61
      have N61 := Fr.app N60 N61q
      refine own_by (fun t k => st61.trans k) ?_
      show own_Go p e below T61 (mkF m 198 #[.val (.int c0), .val (.int i0), .val (.int s0), .val (.int t0), .val (.int u0), .val (.int nb), .val (.int cp), .val (.int (0 : Int32)), .val (.int (1 : Int32)), .val (.int (2 : Int32)), .val (.int sv), .val (.int tv), .val (.int uv), .val (.ref b41), .val (.int (1 : Int32))] [(.int (3 : Int32))]) _
      refine own_s_iconst X61.here hx (3 : Int32) (hb hby at_198) rfl ?_
      refine own_s_icmpNo X61.here hx (hb hby at_199) (Jvm.Free.XT.ii_ne_f ((by decide))) ?_
      refine own_s_iconst X61.here hx (1 : Int32) (hb hby at_202) rfl ?_
      show own_Go p e below T61 (mkF m 203 #[.val (.int c0), .val (.int i0), .val (.int s0), .val (.int t0), .val (.int u0), .val (.int nb), .val (.int cp), .val (.int (0 : Int32)), .val (.int (1 : Int32)), .val (.int (2 : Int32)), .val (.int sv), .val (.int tv), .val (.int uv), .val (.ref b41), .val (.int (1 : Int32))] [(.int (1 : Int32))]) _
      refine own_s_goto X61.here hx 207 (hb hby at_203) (by decide) (by decide) ?_
      refine own_s_istore X61.here hx #[.val (.int c0), .val (.int i0), .val (.int s0), .val (.int t0), .val (.int u0), .val (.int nb), .val (.int cp), .val (.int (0 : Int32)), .val (.int (1 : Int32)), .val (.int (2 : Int32)), .val (.int sv), .val (.int tv), .val (.int uv), .val (.ref b41), .val (.int (1 : Int32))] (hb hby at_207) rfl ?_
      refine own_s_iload X61.here hx (hb hby at_209) rfl ?_
      refine own_retZ X61 hx hret hlk (hb hby at_211) rfl (by decide) (by decide) ?_
      exact ⟨rfl, N61⟩
    ·
      have hnsv : nar .char ((sv + (1 : Int32)).toUInt32.toUInt16.toUInt32.toInt32) = (sv + (1 : Int32)) := by rw [← hsv]; exact own_pick_n s0 cp hcb hm
      have hntv : nar .char ((tv + (1 : Int32)).toUInt32.toUInt16.toUInt32.toInt32) = (tv + (1 : Int32)) := by rw [← htv]; exact own_pick_n t0 cp hcb hm
      have hnuv : nar .char ((uv + (1 : Int32)).toUInt32.toUInt16.toUInt32.toInt32) = (uv + (1 : Int32)) := by rw [← huv]; exact own_pick_n u0 cp hcb hm
      obtain ⟨T62, h62, X62, e62, E62, A62, D62, -, st62⟩ := newO X40 hx hZ hown (hw _ (List.mem_of_getElem? (i := 5) rfl)) (hw _ (List.mem_of_getElem? (i := 6) rfl)) (hw _ (List.mem_of_getElem? (i := 7) rfl)) e40 (g := (mkF m 83 #[.val (.int c0), .val (.int i0), .val (.int s0), .val (.int t0), .val (.int u0), .val (.int nb), .val (.int cp), .val (.int (0 : Int32)), .val (.int (1 : Int32)), .val (.int (2 : Int32)), .val (.int sv), .val (.int tv), .val (.int uv), .unset, .unset] [])) rfl (hb hby at_83) (by decide) (by decide)
      obtain ⟨b62, g62⟩ : ∃ z, z = h0.size := ⟨_, rfl⟩
      rw [← g62] at A62 D62 st62
      have ge_b62 : n0 ≤ b62 := Nat.le_trans Z0 (Nat.le_of_eq g62.symm)
      have SZ62 : n0 ≤ h62.size := Nat.le_trans Z0 E62.1
      have f63 : Fld Z h62 b62 "com/example/tallymark/tallymark/SlotArray" "narrow" "[C" .null := D62 (Or.inl (hw _ (List.mem_of_getElem? (i := 17) rfl))) (ty := (.array .char)) (by decide)
      have f64 : Fld Z h62 b62 "com/example/tallymark/tallymark/SlotArray" "wide" "[I" .null := D62 (Or.inl (hw _ (List.mem_of_getElem? (i := 35) rfl))) (ty := (.array .int)) (by decide)
      refine own_by st62 ?_
      show own_Go p e below T62 (mkF m 86 #[.val (.int c0), .val (.int i0), .val (.int s0), .val (.int t0), .val (.int u0), .val (.int nb), .val (.int cp), .val (.int (0 : Int32)), .val (.int (1 : Int32)), .val (.int (2 : Int32)), .val (.int sv), .val (.int tv), .val (.int uv), .unset, .unset] [(.ref b62)]) _
      refine own_s_dup X62.here hx (hb hby at_86) rfl ?_
      refine own_s_iload X62.here hx (hb hby at_87) rfl ?_
      refine own_s_iconst X62.here hx (3 : Int32) (hb hby at_89) rfl ?_
      obtain ⟨_, _, ⟨T65, L65, k65, n65⟩, -, X65, ⟨Lc65, hQ65, l65, y65, z65⟩, st65⟩ := X62.specialBack hx (y := (⟨"com/example/tallymark/tallymark/SlotArray", "<init>", "(II)V"⟩ : MethodName)) rfl hown (mvT hZ (hw _ (List.mem_of_getElem? (i := 8) rfl))) (mvT hZ (hw _ (List.mem_of_getElem? (i := 9) rfl))) (mvT hZ (hw _ (List.mem_of_getElem? (i := 10) rfl))) (by decide) (backOf (W := 1) (own_inin l Z a0 hw [] b62 cp (3 : Int32) 3 h62 n0 SZ62 hm rfl (by decide) (by decide) A62 f63 f64 ge_b62) hZ (hw _ (List.mem_of_getElem? (i := 10) rfl)) (hw _ (List.mem_of_getElem? (i := 7) rfl)) (by decide) (by decide)) (g := (mkF m 90 #[.val (.int c0), .val (.int i0), .val (.int s0), .val (.int t0), .val (.int u0), .val (.int nb), .val (.int cp), .val (.int (0 : Int32)), .val (.int (1 : Int32)), .val (.int (2 : Int32)), .val (.int sv), .val (.int tv), .val (.int uv), .unset, .unset] [(.int (3 : Int32)), (.int cp), (.ref b62), (.ref b62)])) rfl (by rw [hml]; rfl) (Steps.refl _) (a := b62) (argsL := [(.int cp), (.int (3 : Int32))]) (rest := [(.ref b62)]) (lenOf own_pd_1 rfl) rfl (by show 2 * 0 + _ ≤ _; exact Nat.le_of_eq rfl) (hb hby at_90) (fun _ _ => ⟨rfl, e62, (by decide : 1 + 1 ≤ _), (by decide : 2 + 8 ≤ _)⟩)
      dsimp only [Pt.U, Pt.locs, Pt.cells, Pt.slots] at X65 l65 y65 z65 st65 hQ65
      subst l65 y65 z65
      obtain ⟨rfl, N65q, K65, a65, ga65, na65, fn65, fa65⟩ := hQ65
      have N65 := Fr.app N40 N65q
      have f66 := A62.keep K65
      have SZ65 : n0 ≤ T65.heap.size := Nat.le_trans SZ62 K65.1
      refine own_by (fun t k => st65.trans k) ?_
      show own_Go p e below T65 (mkF m 93 #[.val (.int c0), .val (.int i0), .val (.int s0), .val (.int t0), .val (.int u0), .val (.int nb), .val (.int cp), .val (.int (0 : Int32)), .val (.int (1 : Int32)), .val (.int (2 : Int32)), .val (.int sv), .val (.int tv), .val (.int uv), .unset, .unset] [(.ref b62)]) _
      refine own_s_astore X65.here hx #[.val (.int c0), .val (.int i0), .val (.int s0), .val (.int t0), .val (.int u0), .val (.int nb), .val (.int cp), .val (.int (0 : Int32)), .val (.int (1 : Int32)), .val (.int (2 : Int32)), .val (.int sv), .val (.int tv), .val (.int uv), .val (.ref b62), .unset] (hb hby at_93) rfl rfl ?_
      refine own_s_aload X65.here hx (hb hby at_95) rfl rfl ?_
      refine own_s_iload X65.here hx (hb hby at_97) rfl ?_
      refine own_s_iload X65.here hx (hb hby at_99) rfl ?_
      obtain ⟨cq67, kq67, q67a, q67b, q67c⟩ := isOf hZ rfl f66
      obtain ⟨_, _, ⟨T67, L67, k67, n67⟩, -, X67, ⟨Lc67, hQ67, l67, y67, z67⟩, st67⟩ := X65.virtualBack hx (y := (⟨"com/example/tallymark/tallymark/SlotArray", "set", "(II)V"⟩ : MethodName)) (z := (⟨"com/example/tallymark/tallymark/SlotArray", "set", "(II)V"⟩ : MethodName)) hown (mvT hZ (hw _ (List.mem_of_getElem? (i := 18) rfl))) (mvT hZ (hw _ (List.mem_of_getElem? (i := 19) rfl))) (notFace_of_selects (args := #[]) (mvT hZ (hw _ (List.mem_of_getElem? (i := 21) rfl)))) (mvT hZ (hw _ (List.mem_of_getElem? (i := 21) rfl))) (mvT hZ (hw _ (List.mem_of_getElem? (i := 20) rfl))) (by decide) (backOf (W := 0) (own_setn l Z a0 hw [] b62 (0 : Int32) tv a65 3 0 (fun _ => (.int (0 : Int32))) T65.heap n0 SZ65 (by decide) (by decide) hntv fn65 fa65 ga65 na65) hZ (hw _ (List.mem_of_getElem? (i := 22) rfl)) (hw _ (List.mem_of_getElem? (i := 7) rfl)) (by decide) (by decide)) q67a q67c (g := (mkF m 101 #[.val (.int c0), .val (.int i0), .val (.int s0), .val (.int t0), .val (.int u0), .val (.int nb), .val (.int cp), .val (.int (0 : Int32)), .val (.int (1 : Int32)), .val (.int (2 : Int32)), .val (.int sv), .val (.int tv), .val (.int uv), .val (.ref b62), .unset] [(.int tv), (.int (0 : Int32)), (.ref b62)])) rfl (by rw [hml]; rfl) (Steps.refl _) (argsL := [(.int (0 : Int32)), (.int tv)]) (rest := []) (lenOf own_pd_1 rfl) rfl (by show 2 * 0 + _ ≤ _; exact Nat.le_of_eq rfl) (hb hby at_101) (fun _ _ => ⟨rfl, rfl, (by decide : 2 + 0 ≤ _), (by decide : 10 + 0 ≤ _)⟩)
      dsimp only [Pt.U, Pt.locs, Pt.cells, Pt.slots] at X67 l67 y67 z67 st67 hQ67
      subst l67 y67 z67
      obtain ⟨rfl, N67q, K67, fa67⟩ := hQ67
      have N67 := Fr.app N65 N67q
      have f68 := f66.keep K67
      have f69 := fn65.keep K67 (ninS na65 nin0)
      have SZ67 : n0 ≤ T67.heap.size := Nat.le_trans SZ65 K67.1
      refine own_by (fun t k => st67.trans k) ?_
      show own_Go p e below T67 (mkF m 104 #[.val (.int c0), .val (.int i0), .val (.int s0), .val (.int t0), .val (.int u0), .val (.int nb), .val (.int cp), .val (.int (0 : Int32)), .val (.int (1 : Int32)), .val (.int (2 : Int32)), .val (.int sv), .val (.int tv), .val (.int uv), .val (.ref b62), .unset] []) _
      refine own_s_aload X67.here hx (hb hby at_104) rfl rfl ?_
      refine own_s_iload X67.here hx (hb hby at_106) rfl ?_
      refine own_s_iload X67.here hx (hb hby at_108) rfl ?_
      obtain ⟨cq70, kq70, q70a, q70b, q70c⟩ := isOf hZ rfl f68
      obtain ⟨_, _, ⟨T70, L70, k70, n70⟩, -, X70, ⟨Lc70, hQ70, l70, y70, z70⟩, st70⟩ := X67.virtualBack hx (y := (⟨"com/example/tallymark/tallymark/SlotArray", "set", "(II)V"⟩ : MethodName)) (z := (⟨"com/example/tallymark/tallymark/SlotArray", "set", "(II)V"⟩ : MethodName)) hown (mvT hZ (hw _ (List.mem_of_getElem? (i := 18) rfl))) (mvT hZ (hw _ (List.mem_of_getElem? (i := 19) rfl))) (notFace_of_selects (args := #[]) (mvT hZ (hw _ (List.mem_of_getElem? (i := 21) rfl)))) (mvT hZ (hw _ (List.mem_of_getElem? (i := 21) rfl))) (mvT hZ (hw _ (List.mem_of_getElem? (i := 20) rfl))) (by decide) (backOf (W := 0) (own_setn l Z a0 hw [] b62 (1 : Int32) uv a65 3 1 (own_upd (fun _ => (.int (0 : Int32))) 0 (.int (tv + (1 : Int32)))) T67.heap n0 SZ67 (by decide) (by decide) hnuv f69 fa67 ga65 na65) hZ (hw _ (List.mem_of_getElem? (i := 22) rfl)) (hw _ (List.mem_of_getElem? (i := 7) rfl)) (by decide) (by decide)) q70a q70c (g := (mkF m 110 #[.val (.int c0), .val (.int i0), .val (.int s0), .val (.int t0), .val (.int u0), .val (.int nb), .val (.int cp), .val (.int (0 : Int32)), .val (.int (1 : Int32)), .val (.int (2 : Int32)), .val (.int sv), .val (.int tv), .val (.int uv), .val (.ref b62), .unset] [(.int uv), (.int (1 : Int32)), (.ref b62)])) rfl (by rw [hml]; rfl) (Steps.refl _) (argsL := [(.int (1 : Int32)), (.int uv)]) (rest := []) (lenOf own_pd_1 rfl) rfl (by show 2 * 0 + _ ≤ _; exact Nat.le_of_eq rfl) (hb hby at_110) (fun _ _ => ⟨rfl, rfl, (by decide : 2 + 0 ≤ _), (by decide : 10 + 0 ≤ _)⟩)
      dsimp only [Pt.U, Pt.locs, Pt.cells, Pt.slots] at X70 l70 y70 z70 st70 hQ70
      subst l70 y70 z70
      obtain ⟨rfl, N70q, K70, fa70⟩ := hQ70
      have N70 := Fr.app N67 N70q
      have f71 := f68.keep K70
      have f72 := f69.keep K70 (ninS na65 nin0)
      have SZ70 : n0 ≤ T70.heap.size := Nat.le_trans SZ67 K70.1
      refine own_by (fun t k => st70.trans k) ?_
      show own_Go p e below T70 (mkF m 113 #[.val (.int c0), .val (.int i0), .val (.int s0), .val (.int t0), .val (.int u0), .val (.int nb), .val (.int cp), .val (.int (0 : Int32)), .val (.int (1 : Int32)), .val (.int (2 : Int32)), .val (.int sv), .val (.int tv), .val (.int uv), .val (.ref b62), .unset] []) _
      refine own_s_aload X70.here hx (hb hby at_113) rfl rfl ?_
      refine own_s_iload X70.here hx (hb hby at_115) rfl ?_
      refine own_s_iload X70.here hx (hb hby at_117) rfl ?_
      obtain ⟨cq73, kq73, q73a, q73b, q73c⟩ := isOf hZ rfl f71
      obtain ⟨_, _, ⟨T73, L73, k73, n73⟩, -, X73, ⟨Lc73, hQ73, l73, y73, z73⟩, st73⟩ := X70.virtualBack hx (y := (⟨"com/example/tallymark/tallymark/SlotArray", "set", "(II)V"⟩ : MethodName)) (z := (⟨"com/example/tallymark/tallymark/SlotArray", "set", "(II)V"⟩ : MethodName)) hown (mvT hZ (hw _ (List.mem_of_getElem? (i := 18) rfl))) (mvT hZ (hw _ (List.mem_of_getElem? (i := 19) rfl))) (notFace_of_selects (args := #[]) (mvT hZ (hw _ (List.mem_of_getElem? (i := 21) rfl)))) (mvT hZ (hw _ (List.mem_of_getElem? (i := 21) rfl))) (mvT hZ (hw _ (List.mem_of_getElem? (i := 20) rfl))) (by decide) (backOf (W := 0) (own_setn l Z a0 hw [] b62 (0 : Int32) sv a65 3 0 (own_upd (own_upd (fun _ => (.int (0 : Int32))) 0 (.int (tv + (1 : Int32)))) 1 (.int (uv + (1 : Int32)))) T70.heap n0 SZ70 (by decide) (by decide) hnsv f72 fa70 ga65 na65) hZ (hw _ (List.mem_of_getElem? (i := 22) rfl)) (hw _ (List.mem_of_getElem? (i := 7) rfl)) (by decide) (by decide)) q73a q73c (g := (mkF m 119 #[.val (.int c0), .val (.int i0), .val (.int s0), .val (.int t0), .val (.int u0), .val (.int nb), .val (.int cp), .val (.int (0 : Int32)), .val (.int (1 : Int32)), .val (.int (2 : Int32)), .val (.int sv), .val (.int tv), .val (.int uv), .val (.ref b62), .unset] [(.int sv), (.int (0 : Int32)), (.ref b62)])) rfl (by rw [hml]; rfl) (Steps.refl _) (argsL := [(.int (0 : Int32)), (.int sv)]) (rest := []) (lenOf own_pd_1 rfl) rfl (by show 2 * 0 + _ ≤ _; exact Nat.le_of_eq rfl) (hb hby at_119) (fun _ _ => ⟨rfl, rfl, (by decide : 2 + 0 ≤ _), (by decide : 10 + 0 ≤ _)⟩)
      dsimp only [Pt.U, Pt.locs, Pt.cells, Pt.slots] at X73 l73 y73 z73 st73 hQ73
      subst l73 y73 z73
      obtain ⟨rfl, N73q, K73, fa73⟩ := hQ73
      have N73 := Fr.app N70 N73q
      have f74 := f71.keep K73
      have f75 := f72.keep K73 (ninS na65 nin0)
      have SZ73 : n0 ≤ T73.heap.size := Nat.le_trans SZ70 K73.1
      refine own_by (fun t k => st73.trans k) ?_
      show own_Go p e below T73 (mkF m 122 #[.val (.int c0), .val (.int i0), .val (.int s0), .val (.int t0), .val (.int u0), .val (.int nb), .val (.int cp), .val (.int (0 : Int32)), .val (.int (1 : Int32)), .val (.int (2 : Int32)), .val (.int sv), .val (.int tv), .val (.int uv), .val (.ref b62), .unset] []) _
      refine own_s_aload X73.here hx (hb hby at_122) rfl rfl ?_
      refine own_s_iload X73.here hx (hb hby at_124) rfl ?_
      obtain ⟨cq76, kq76, q76a, q76b, q76c⟩ := isOf hZ rfl f74
      obtain ⟨_, _, ⟨T76, L76, k76, n76⟩, -, X76, ⟨Lc76, hQ76, l76, y76, z76⟩, st76⟩ := X73.virtualBack hx (y := (⟨"com/example/tallymark/tallymark/SlotArray", "get", "(I)I"⟩ : MethodName)) (z := (⟨"com/example/tallymark/tallymark/SlotArray", "get", "(I)I"⟩ : MethodName)) hown (mvT hZ (hw _ (List.mem_of_getElem? (i := 23) rfl))) (mvT hZ (hw _ (List.mem_of_getElem? (i := 24) rfl))) (notFace_of_selects (args := #[]) (mvT hZ (hw _ (List.mem_of_getElem? (i := 26) rfl)))) (mvT hZ (hw _ (List.mem_of_getElem? (i := 26) rfl))) (mvT hZ (hw _ (List.mem_of_getElem? (i := 25) rfl))) (by decide) (backOf (W := 0) (own_getn l Z a0 hw [] b62 (0 : Int32) a65 3 0 (own_upd (own_upd (own_upd (fun _ => (.int (0 : Int32))) 0 (.int (tv + (1 : Int32)))) 1 (.int (uv + (1 : Int32)))) 0 (.int (sv + (1 : Int32)))) (sv + (1 : Int32)) T73.heap n0 SZ73 (by decide) (by decide) rfl f75 fa73) hZ (hw _ (List.mem_of_getElem? (i := 27) rfl)) (hw _ (List.mem_of_getElem? (i := 7) rfl)) (by decide) (by decide)) q76a q76c (g := (mkF m 126 #[.val (.int c0), .val (.int i0), .val (.int s0), .val (.int t0), .val (.int u0), .val (.int nb), .val (.int cp), .val (.int (0 : Int32)), .val (.int (1 : Int32)), .val (.int (2 : Int32)), .val (.int sv), .val (.int tv), .val (.int uv), .val (.ref b62), .unset] [(.int (0 : Int32)), (.ref b62)])) rfl (by rw [hml]; rfl) (Steps.refl _) (argsL := [(.int (0 : Int32))]) (rest := []) (lenOf own_pd_3 rfl) rfl (by show 2 * 0 + _ ≤ _; exact Nat.le_of_eq rfl) (hb hby at_126) (fun _ _ => ⟨rfl, rfl, (by decide : 2 + 0 ≤ _), (by decide : 10 + 0 ≤ _)⟩)
      dsimp only [Pt.U, Pt.locs, Pt.cells, Pt.slots] at X76 l76 y76 z76 st76 hQ76
      subst l76 y76 z76
      obtain ⟨rfl, N76q, e76⟩ := hQ76
      have N76 := Fr.app N73 N76q
      refine own_by (fun t k => st76.trans k) ?_
      show own_Go p e below T76 (mkF m 129 #[.val (.int c0), .val (.int i0), .val (.int s0), .val (.int t0), .val (.int u0), .val (.int nb), .val (.int cp), .val (.int (0 : Int32)), .val (.int (1 : Int32)), .val (.int (2 : Int32)), .val (.int sv), .val (.int tv), .val (.int uv), .val (.ref b62), .unset] [(.int ((sv + (1 : Int32)) - (1 : Int32)))]) _
      refine own_s_iload X76.here hx (hb hby at_129) rfl ?_
      refine own_s_icmpNo X76.here hx (hb hby at_131) (Jvm.Free.XT.ii_ne_f ((own_as _))) ?_
      refine own_s_iconst X76.here hx (1 : Int32) (hb hby at_134) rfl ?_
      show own_Go p e below T76 (mkF m 135 #[.val (.int c0), .val (.int i0), .val (.int s0), .val (.int t0), .val (.int u0), .val (.int nb), .val (.int cp), .val (.int (0 : Int32)), .val (.int (1 : Int32)), .val (.int (2 : Int32)), .val (.int sv), .val (.int tv), .val (.int uv), .val (.ref b62), .unset] [(.int (1 : Int32))]) _
      refine own_s_goto X76.here hx 139 (hb hby at_135) (by decide) (by decide) ?_
      refine own_s_istore X76.here hx #[.val (.int c0), .val (.int i0), .val (.int s0), .val (.int t0), .val (.int u0), .val (.int nb), .val (.int cp), .val (.int (0 : Int32)), .val (.int (1 : Int32)), .val (.int (2 : Int32)), .val (.int sv), .val (.int tv), .val (.int uv), .val (.ref b62), .val (.int (1 : Int32))] (hb hby at_139) rfl ?_
      refine own_s_iload X76.here hx (hb hby at_141) rfl ?_
      refine own_s_ifNo X76.here hx (hb hby at_143) (Jvm.Free.XT.i0_eq_f ((by decide))) ?_
      refine own_s_aload X76.here hx (hb hby at_146) rfl rfl ?_
      refine own_s_iload X76.here hx (hb hby at_148) rfl ?_
      obtain ⟨cq77, kq77, q77a, q77b, q77c⟩ := isOf hZ e76 f74
      obtain ⟨_, _, ⟨T77, L77, k77, n77⟩, -, X77, ⟨Lc77, hQ77, l77, y77, z77⟩, st77⟩ := X76.virtualBack hx (y := (⟨"com/example/tallymark/tallymark/SlotArray", "get", "(I)I"⟩ : MethodName)) (z := (⟨"com/example/tallymark/tallymark/SlotArray", "get", "(I)I"⟩ : MethodName)) hown (mvT hZ (hw _ (List.mem_of_getElem? (i := 23) rfl))) (mvT hZ (hw _ (List.mem_of_getElem? (i := 24) rfl))) (notFace_of_selects (args := #[]) (mvT hZ (hw _ (List.mem_of_getElem? (i := 26) rfl)))) (mvT hZ (hw _ (List.mem_of_getElem? (i := 26) rfl))) (mvT hZ (hw _ (List.mem_of_getElem? (i := 25) rfl))) (by decide) (backOf (W := 0) (own_getn l Z a0 hw [] b62 (1 : Int32) a65 3 1 (own_upd (own_upd (own_upd (fun _ => (.int (0 : Int32))) 0 (.int (tv + (1 : Int32)))) 1 (.int (uv + (1 : Int32)))) 0 (.int (sv + (1 : Int32)))) (uv + (1 : Int32)) T73.heap n0 SZ73 (by decide) (by decide) rfl f75 fa73) hZ (hw _ (List.mem_of_getElem? (i := 27) rfl)) (hw _ (List.mem_of_getElem? (i := 7) rfl)) (by decide) (by decide)) q77a q77c (g := (mkF m 150 #[.val (.int c0), .val (.int i0), .val (.int s0), .val (.int t0), .val (.int u0), .val (.int nb), .val (.int cp), .val (.int (0 : Int32)), .val (.int (1 : Int32)), .val (.int (2 : Int32)), .val (.int sv), .val (.int tv), .val (.int uv), .val (.ref b62), .val (.int (1 : Int32))] [(.int (1 : Int32)), (.ref b62)])) rfl (by rw [hml]; rfl) (Steps.refl _) (argsL := [(.int (1 : Int32))]) (rest := []) (lenOf own_pd_3 rfl) rfl (by show 2 * 0 + _ ≤ _; exact Nat.le_of_eq rfl) (hb hby at_150) (fun _ _ => ⟨rfl, e76, (by decide : 2 + 0 ≤ _), (by decide : 10 + 0 ≤ _)⟩)
      dsimp only [Pt.U, Pt.locs, Pt.cells, Pt.slots] at X77 l77 y77 z77 st77 hQ77
      subst l77 y77 z77
      obtain ⟨rfl, N77q, e77⟩ := hQ77
      have N77 := Fr.app N76 N77q
      refine own_by (fun t k => st77.trans k) ?_
      show own_Go p e below T77 (mkF m 153 #[.val (.int c0), .val (.int i0), .val (.int s0), .val (.int t0), .val (.int u0), .val (.int nb), .val (.int cp), .val (.int (0 : Int32)), .val (.int (1 : Int32)), .val (.int (2 : Int32)), .val (.int sv), .val (.int tv), .val (.int uv), .val (.ref b62), .val (.int (1 : Int32))] [(.int ((uv + (1 : Int32)) - (1 : Int32)))]) _
      refine own_s_iload X77.here hx (hb hby at_153) rfl ?_
      refine own_s_icmpNo X77.here hx (hb hby at_155) (Jvm.Free.XT.ii_ne_f ((own_as _))) ?_
      refine own_s_iconst X77.here hx (1 : Int32) (hb hby at_158) rfl ?_
      show own_Go p e below T77 (mkF m 159 #[.val (.int c0), .val (.int i0), .val (.int s0), .val (.int t0), .val (.int u0), .val (.int nb), .val (.int cp), .val (.int (0 : Int32)), .val (.int (1 : Int32)), .val (.int (2 : Int32)), .val (.int sv), .val (.int tv), .val (.int uv), .val (.ref b62), .val (.int (1 : Int32))] [(.int (1 : Int32))]) _
      refine own_s_goto X77.here hx 163 (hb hby at_159) (by decide) (by decide) ?_
      refine own_s_istore X77.here hx #[.val (.int c0), .val (.int i0), .val (.int s0), .val (.int t0), .val (.int u0), .val (.int nb), .val (.int cp), .val (.int (0 : Int32)), .val (.int (1 : Int32)), .val (.int (2 : Int32)), .val (.int sv), .val (.int tv), .val (.int uv), .val (.ref b62), .val (.int (1 : Int32))] (hb hby at_163) rfl ?_
      refine own_s_iload X77.here hx (hb hby at_165) rfl ?_
      refine own_s_ifNo X77.here hx (hb hby at_167) (Jvm.Free.XT.i0_eq_f ((by decide))) ?_
      refine own_s_aload X77.here hx (hb hby at_170) rfl rfl ?_
      refine own_s_iload X77.here hx (hb hby at_172) rfl ?_
      obtain ⟨cq78, kq78, q78a, q78b, q78c⟩ := isOf hZ e77 f74
      obtain ⟨_, _, ⟨T78, L78, k78, n78⟩, -, X78, ⟨Lc78, hQ78, l78, y78, z78⟩, st78⟩ := X77.virtualBack hx (y := (⟨"com/example/tallymark/tallymark/SlotArray", "get", "(I)I"⟩ : MethodName)) (z := (⟨"com/example/tallymark/tallymark/SlotArray", "get", "(I)I"⟩ : MethodName)) hown (mvT hZ (hw _ (List.mem_of_getElem? (i := 23) rfl))) (mvT hZ (hw _ (List.mem_of_getElem? (i := 24) rfl))) (notFace_of_selects (args := #[]) (mvT hZ (hw _ (List.mem_of_getElem? (i := 26) rfl)))) (mvT hZ (hw _ (List.mem_of_getElem? (i := 26) rfl))) (mvT hZ (hw _ (List.mem_of_getElem? (i := 25) rfl))) (by decide) (backOf (W := 0) (own_getn l Z a0 hw [] b62 (2 : Int32) a65 3 2 (own_upd (own_upd (own_upd (fun _ => (.int (0 : Int32))) 0 (.int (tv + (1 : Int32)))) 1 (.int (uv + (1 : Int32)))) 0 (.int (sv + (1 : Int32)))) (0 : Int32) T73.heap n0 SZ73 (by decide) (by decide) rfl f75 fa73) hZ (hw _ (List.mem_of_getElem? (i := 27) rfl)) (hw _ (List.mem_of_getElem? (i := 7) rfl)) (by decide) (by decide)) q78a q78c (g := (mkF m 174 #[.val (.int c0), .val (.int i0), .val (.int s0), .val (.int t0), .val (.int u0), .val (.int nb), .val (.int cp), .val (.int (0 : Int32)), .val (.int (1 : Int32)), .val (.int (2 : Int32)), .val (.int sv), .val (.int tv), .val (.int uv), .val (.ref b62), .val (.int (1 : Int32))] [(.int (2 : Int32)), (.ref b62)])) rfl (by rw [hml]; rfl) (Steps.refl _) (argsL := [(.int (2 : Int32))]) (rest := []) (lenOf own_pd_3 rfl) rfl (by show 2 * 0 + _ ≤ _; exact Nat.le_of_eq rfl) (hb hby at_174) (fun _ _ => ⟨rfl, e77, (by decide : 2 + 0 ≤ _), (by decide : 10 + 0 ≤ _)⟩)
      dsimp only [Pt.U, Pt.locs, Pt.cells, Pt.slots] at X78 l78 y78 z78 st78 hQ78
      subst l78 y78 z78
      obtain ⟨rfl, N78q, e78⟩ := hQ78
      have N78 := Fr.app N77 N78q
      refine own_by (fun t k => st78.trans k) ?_
      show own_Go p e below T78 (mkF m 177 #[.val (.int c0), .val (.int i0), .val (.int s0), .val (.int t0), .val (.int u0), .val (.int nb), .val (.int cp), .val (.int (0 : Int32)), .val (.int (1 : Int32)), .val (.int (2 : Int32)), .val (.int sv), .val (.int tv), .val (.int uv), .val (.ref b62), .val (.int (1 : Int32))] [(.int ((0 : Int32) - (1 : Int32)))]) _
      refine own_s_iconst X78.here hx (-1 : Int32) (hb hby at_177) rfl ?_
      refine own_s_icmpNo X78.here hx (hb hby at_178) (Jvm.Free.XT.ii_ne_f ((by decide))) ?_
      refine own_s_iconst X78.here hx (1 : Int32) (hb hby at_181) rfl ?_
      show own_Go p e below T78 (mkF m 182 #[.val (.int c0), .val (.int i0), .val (.int s0), .val (.int t0), .val (.int u0), .val (.int nb), .val (.int cp), .val (.int (0 : Int32)), .val (.int (1 : Int32)), .val (.int (2 : Int32)), .val (.int sv), .val (.int tv), .val (.int uv), .val (.ref b62), .val (.int (1 : Int32))] [(.int (1 : Int32))]) _
      refine own_s_goto X78.here hx 186 (hb hby at_182) (by decide) (by decide) ?_
      refine own_s_istore X78.here hx #[.val (.int c0), .val (.int i0), .val (.int s0), .val (.int t0), .val (.int u0), .val (.int nb), .val (.int cp), .val (.int (0 : Int32)), .val (.int (1 : Int32)), .val (.int (2 : Int32)), .val (.int sv), .val (.int tv), .val (.int uv), .val (.ref b62), .val (.int (1 : Int32))] (hb hby at_186) rfl ?_
      refine own_s_iload X78.here hx (hb hby at_188) rfl ?_
      refine own_s_ifNo X78.here hx (hb hby at_190) (Jvm.Free.XT.i0_eq_f ((by decide))) ?_
      refine own_s_aload X78.here hx (hb hby at_193) rfl rfl ?_
      obtain ⟨cq79, kq79, q79a, q79b, q79c⟩ := isOf hZ e78 f74
      obtain ⟨_, _, ⟨T79, L79, k79, n79⟩, -, X79, ⟨Lc79, hQ79, l79, y79, z79⟩, st79⟩ := X78.virtualBack hx (y := (⟨"com/example/tallymark/tallymark/SlotArray", "length", "()I"⟩ : MethodName)) (z := (⟨"com/example/tallymark/tallymark/SlotArray", "length", "()I"⟩ : MethodName)) hown (mvT hZ (hw _ (List.mem_of_getElem? (i := 28) rfl))) (mvT hZ (hw _ (List.mem_of_getElem? (i := 29) rfl))) (notFace_of_selects (args := #[]) (mvT hZ (hw _ (List.mem_of_getElem? (i := 31) rfl)))) (mvT hZ (hw _ (List.mem_of_getElem? (i := 31) rfl))) (mvT hZ (hw _ (List.mem_of_getElem? (i := 30) rfl))) (by decide) (backOf (W := 0) (own_lenn l Z a0 hw [] b62 a65 3 (own_upd (own_upd (own_upd (fun _ => (.int (0 : Int32))) 0 (.int (tv + (1 : Int32)))) 1 (.int (uv + (1 : Int32)))) 0 (.int (sv + (1 : Int32)))) (3 : Int32) T73.heap n0 SZ73 rfl f75 fa73) hZ (hw _ (List.mem_of_getElem? (i := 32) rfl)) (hw _ (List.mem_of_getElem? (i := 7) rfl)) (by decide) (by decide)) q79a q79c (g := (mkF m 195 #[.val (.int c0), .val (.int i0), .val (.int s0), .val (.int t0), .val (.int u0), .val (.int nb), .val (.int cp), .val (.int (0 : Int32)), .val (.int (1 : Int32)), .val (.int (2 : Int32)), .val (.int sv), .val (.int tv), .val (.int uv), .val (.ref b62), .val (.int (1 : Int32))] [(.ref b62)])) rfl (by rw [hml]; rfl) (Steps.refl _) (argsL := []) (rest := []) (lenOf own_pd_4 rfl) rfl (by show 2 * 0 + _ ≤ _; exact Nat.le_of_eq rfl) (hb hby at_195) (fun _ _ => ⟨rfl, e78, (by decide : 2 + 0 ≤ _), (by decide : 10 + 0 ≤ _)⟩)
      dsimp only [Pt.U, Pt.locs, Pt.cells, Pt.slots] at X79 l79 y79 z79 st79 hQ79
      subst l79 y79 z79
      obtain ⟨rfl, N79q, e79⟩ := hQ79
      have N79 := Fr.app N78 N79q
      refine own_by (fun t k => st79.trans k) ?_
      show own_Go p e below T79 (mkF m 198 #[.val (.int c0), .val (.int i0), .val (.int s0), .val (.int t0), .val (.int u0), .val (.int nb), .val (.int cp), .val (.int (0 : Int32)), .val (.int (1 : Int32)), .val (.int (2 : Int32)), .val (.int sv), .val (.int tv), .val (.int uv), .val (.ref b62), .val (.int (1 : Int32))] [(.int (3 : Int32))]) _
      refine own_s_iconst X79.here hx (3 : Int32) (hb hby at_198) rfl ?_
      refine own_s_icmpNo X79.here hx (hb hby at_199) (Jvm.Free.XT.ii_ne_f ((by decide))) ?_
      refine own_s_iconst X79.here hx (1 : Int32) (hb hby at_202) rfl ?_
      show own_Go p e below T79 (mkF m 203 #[.val (.int c0), .val (.int i0), .val (.int s0), .val (.int t0), .val (.int u0), .val (.int nb), .val (.int cp), .val (.int (0 : Int32)), .val (.int (1 : Int32)), .val (.int (2 : Int32)), .val (.int sv), .val (.int tv), .val (.int uv), .val (.ref b62), .val (.int (1 : Int32))] [(.int (1 : Int32))]) _
      refine own_s_goto X79.here hx 207 (hb hby at_203) (by decide) (by decide) ?_
      refine own_s_istore X79.here hx #[.val (.int c0), .val (.int i0), .val (.int s0), .val (.int t0), .val (.int u0), .val (.int nb), .val (.int cp), .val (.int (0 : Int32)), .val (.int (1 : Int32)), .val (.int (2 : Int32)), .val (.int sv), .val (.int tv), .val (.int uv), .val (.ref b62), .val (.int (1 : Int32))] (hb hby at_207) rfl ?_
      refine own_s_iload X79.here hx (hb hby at_209) rfl ?_
      refine own_retZ X79 hx hret hlk (hb hby at_211) rfl (by decide) (by decide) ?_
      exact ⟨rfl, N79⟩
  ·
    show own_Go p e below T0 (mkF m 42 #[.val (.int c0), .val (.int i0), .val (.int s0), .val (.int t0), .val (.int u0), .val (.int nb), .val (.int cp), .val (.int (1 : Int32)), .unset, .unset, .unset, .unset, .unset, .unset, .unset] []) _
    refine own_s_iload X0.here hx (hb hby at_42) rfl ?_
    refine own_s_iconst X0.here hx (1 : Int32) (hb hby at_44) rfl ?_
    refine own_s_iadd X0.here hx (hb hby at_45) ?_
    refine own_s_iconst X0.here hx (3 : Int32) (hb hby at_46) rfl ?_
    refine own_by (fun tq_ kq_ => iremM X0 hx rfl (hb hby at_47) rfl (by decide) kq_) ?_
    show own_Go p e below T0 (mkF m 48 #[.val (.int c0), .val (.int i0), .val (.int s0), .val (.int t0), .val (.int u0), .val (.int nb), .val (.int cp), .val (.int (1 : Int32)), .unset, .unset, .unset, .unset, .unset, .unset, .unset] [(.int (((1 : Int32) + (1 : Int32)) % (3 : Int32)))]) _
    refine own_s_istore X0.here hx #[.val (.int c0), .val (.int i0), .val (.int s0), .val (.int t0), .val (.int u0), .val (.int nb), .val (.int cp), .val (.int (1 : Int32)), .val (.int (((1 : Int32) + (1 : Int32)) % (3 : Int32))), .unset, .unset, .unset, .unset, .unset, .unset] (hb hby at_48) rfl ?_
    show own_Go p e below T0 (mkF m 50 #[.val (.int c0), .val (.int i0), .val (.int s0), .val (.int t0), .val (.int u0), .val (.int nb), .val (.int cp), .val (.int (1 : Int32)), .val (.int (2 : Int32)), .unset, .unset, .unset, .unset, .unset, .unset] []) _
    refine own_s_iload X0.here hx (hb hby at_50) rfl ?_
    refine own_s_iconst X0.here hx (2 : Int32) (hb hby at_52) rfl ?_
    refine own_s_iadd X0.here hx (hb hby at_53) ?_
    refine own_s_iconst X0.here hx (3 : Int32) (hb hby at_54) rfl ?_
    refine own_by (fun tq_ kq_ => iremM X0 hx rfl (hb hby at_55) rfl (by decide) kq_) ?_
    show own_Go p e below T0 (mkF m 56 #[.val (.int c0), .val (.int i0), .val (.int s0), .val (.int t0), .val (.int u0), .val (.int nb), .val (.int cp), .val (.int (1 : Int32)), .val (.int (2 : Int32)), .unset, .unset, .unset, .unset, .unset, .unset] [(.int (((1 : Int32) + (2 : Int32)) % (3 : Int32)))]) _
    refine own_s_istore X0.here hx #[.val (.int c0), .val (.int i0), .val (.int s0), .val (.int t0), .val (.int u0), .val (.int nb), .val (.int cp), .val (.int (1 : Int32)), .val (.int (2 : Int32)), .val (.int (((1 : Int32) + (2 : Int32)) % (3 : Int32))), .unset, .unset, .unset, .unset, .unset] (hb hby at_56) rfl ?_
    show own_Go p e below T0 (mkF m 58 #[.val (.int c0), .val (.int i0), .val (.int s0), .val (.int t0), .val (.int u0), .val (.int nb), .val (.int cp), .val (.int (1 : Int32)), .val (.int (2 : Int32)), .val (.int (0 : Int32)), .unset, .unset, .unset, .unset, .unset] []) _
    refine own_s_iloadN X0.here hx (hb hby at_58) rfl ?_
    refine own_s_iload X0.here hx (hb hby at_59) rfl ?_
    obtain ⟨_, _, ⟨T80, L80, k80, n80⟩, -, X80, ⟨Lc80, hQ80, l80, y80, z80⟩, st80⟩ := Jvm.LawKit.callS X0 hx (y := (⟨"com/example/tallymark/tallymark/SlotArraySetPinLaw", "slotIn", "(II)I"⟩ : MethodName)) hown (mvT hZ (hw _ (List.mem_of_getElem? (i := 1) rfl))) (mvT hZ (hw _ (List.mem_of_getElem? (i := 2) rfl))) (mvT hZ (hw _ (List.mem_of_getElem? (i := 3) rfl))) (mvT hZ (hw _ (List.mem_of_getElem? (i := 4) rfl))) (by decide) (backOf (W := 0) (own_r1 l Z a0 hw [] s0 cp  h0 n0 Z0 hcb) hZ (hw _ (List.mem_of_getElem? (i := 4) rfl)) (hw _ (List.mem_of_getElem? (i := 3) rfl)) (by decide) (by decide)) (g := (mkF m 61 #[.val (.int c0), .val (.int i0), .val (.int s0), .val (.int t0), .val (.int u0), .val (.int nb), .val (.int cp), .val (.int (1 : Int32)), .val (.int (2 : Int32)), .val (.int (0 : Int32)), .unset, .unset, .unset, .unset, .unset] [(.int cp), (.int s0)])) rfl (by rw [hml]; rfl) (argsL := [(.int s0), (.int cp)]) (rest := []) (lenOf own_pd_0 rfl) rfl (by show 2 * 0 + _ ≤ _; exact Nat.le_of_eq rfl) (hb hby at_61) (fun _ _ => ⟨rfl, e0, (by decide : 0 + 0 ≤ _), (by decide : 0 + 0 ≤ _)⟩)
    dsimp only [Pt.U, Pt.locs, Pt.cells, Pt.slots] at X80 l80 y80 z80 st80 hQ80
    subst l80 y80 z80
    obtain ⟨rfl, N80q, e80⟩ := hQ80
    have N80 := Fr.app N0 N80q
    refine own_by st80 ?_
    show own_Go p e below T80 (mkF m 64 #[.val (.int c0), .val (.int i0), .val (.int s0), .val (.int t0), .val (.int u0), .val (.int nb), .val (.int cp), .val (.int (1 : Int32)), .val (.int (2 : Int32)), .val (.int (0 : Int32)), .unset, .unset, .unset, .unset, .unset] [(.int (own_pick s0 cp))]) _
    refine own_s_istore X80.here hx #[.val (.int c0), .val (.int i0), .val (.int s0), .val (.int t0), .val (.int u0), .val (.int nb), .val (.int cp), .val (.int (1 : Int32)), .val (.int (2 : Int32)), .val (.int (0 : Int32)), .val (.int (own_pick s0 cp)), .unset, .unset, .unset, .unset] (hb hby at_64) rfl ?_
    generalize hsv : (own_pick s0 cp) = sv
    show own_Go p e below T80 (mkF m 66 #[.val (.int c0), .val (.int i0), .val (.int s0), .val (.int t0), .val (.int u0), .val (.int nb), .val (.int cp), .val (.int (1 : Int32)), .val (.int (2 : Int32)), .val (.int (0 : Int32)), .val (.int sv), .unset, .unset, .unset, .unset] []) _
    refine own_s_iloadN X80.here hx (hb hby at_66) rfl ?_
    refine own_s_iload X80.here hx (hb hby at_67) rfl ?_
    obtain ⟨_, _, ⟨T81, L81, k81, n81⟩, -, X81, ⟨Lc81, hQ81, l81, y81, z81⟩, st81⟩ := Jvm.LawKit.callS X80 hx (y := (⟨"com/example/tallymark/tallymark/SlotArraySetPinLaw", "slotIn", "(II)I"⟩ : MethodName)) hown (mvT hZ (hw _ (List.mem_of_getElem? (i := 1) rfl))) (mvT hZ (hw _ (List.mem_of_getElem? (i := 2) rfl))) (mvT hZ (hw _ (List.mem_of_getElem? (i := 3) rfl))) (mvT hZ (hw _ (List.mem_of_getElem? (i := 4) rfl))) (by decide) (backOf (W := 0) (own_r1 l Z a0 hw [] t0 cp  h0 n0 Z0 hcb) hZ (hw _ (List.mem_of_getElem? (i := 4) rfl)) (hw _ (List.mem_of_getElem? (i := 3) rfl)) (by decide) (by decide)) (g := (mkF m 69 #[.val (.int c0), .val (.int i0), .val (.int s0), .val (.int t0), .val (.int u0), .val (.int nb), .val (.int cp), .val (.int (1 : Int32)), .val (.int (2 : Int32)), .val (.int (0 : Int32)), .val (.int sv), .unset, .unset, .unset, .unset] [(.int cp), (.int t0)])) rfl (by rw [hml]; rfl) (argsL := [(.int t0), (.int cp)]) (rest := []) (lenOf own_pd_0 rfl) rfl (by show 2 * 0 + _ ≤ _; exact Nat.le_of_eq rfl) (hb hby at_69) (fun _ _ => ⟨rfl, e80, (by decide : 0 + 0 ≤ _), (by decide : 0 + 0 ≤ _)⟩)
    dsimp only [Pt.U, Pt.locs, Pt.cells, Pt.slots] at X81 l81 y81 z81 st81 hQ81
    subst l81 y81 z81
    obtain ⟨rfl, N81q, e81⟩ := hQ81
    have N81 := Fr.app N80 N81q
    refine own_by st81 ?_
    show own_Go p e below T81 (mkF m 72 #[.val (.int c0), .val (.int i0), .val (.int s0), .val (.int t0), .val (.int u0), .val (.int nb), .val (.int cp), .val (.int (1 : Int32)), .val (.int (2 : Int32)), .val (.int (0 : Int32)), .val (.int sv), .unset, .unset, .unset, .unset] [(.int (own_pick t0 cp))]) _
    refine own_s_istore X81.here hx #[.val (.int c0), .val (.int i0), .val (.int s0), .val (.int t0), .val (.int u0), .val (.int nb), .val (.int cp), .val (.int (1 : Int32)), .val (.int (2 : Int32)), .val (.int (0 : Int32)), .val (.int sv), .val (.int (own_pick t0 cp)), .unset, .unset, .unset] (hb hby at_72) rfl ?_
    generalize htv : (own_pick t0 cp) = tv
    show own_Go p e below T81 (mkF m 74 #[.val (.int c0), .val (.int i0), .val (.int s0), .val (.int t0), .val (.int u0), .val (.int nb), .val (.int cp), .val (.int (1 : Int32)), .val (.int (2 : Int32)), .val (.int (0 : Int32)), .val (.int sv), .val (.int tv), .unset, .unset, .unset] []) _
    refine own_s_iload X81.here hx (hb hby at_74) rfl ?_
    refine own_s_iload X81.here hx (hb hby at_76) rfl ?_
    obtain ⟨_, _, ⟨T82, L82, k82, n82⟩, -, X82, ⟨Lc82, hQ82, l82, y82, z82⟩, st82⟩ := Jvm.LawKit.callS X81 hx (y := (⟨"com/example/tallymark/tallymark/SlotArraySetPinLaw", "slotIn", "(II)I"⟩ : MethodName)) hown (mvT hZ (hw _ (List.mem_of_getElem? (i := 1) rfl))) (mvT hZ (hw _ (List.mem_of_getElem? (i := 2) rfl))) (mvT hZ (hw _ (List.mem_of_getElem? (i := 3) rfl))) (mvT hZ (hw _ (List.mem_of_getElem? (i := 4) rfl))) (by decide) (backOf (W := 0) (own_r1 l Z a0 hw [] u0 cp  h0 n0 Z0 hcb) hZ (hw _ (List.mem_of_getElem? (i := 4) rfl)) (hw _ (List.mem_of_getElem? (i := 3) rfl)) (by decide) (by decide)) (g := (mkF m 78 #[.val (.int c0), .val (.int i0), .val (.int s0), .val (.int t0), .val (.int u0), .val (.int nb), .val (.int cp), .val (.int (1 : Int32)), .val (.int (2 : Int32)), .val (.int (0 : Int32)), .val (.int sv), .val (.int tv), .unset, .unset, .unset] [(.int cp), (.int u0)])) rfl (by rw [hml]; rfl) (argsL := [(.int u0), (.int cp)]) (rest := []) (lenOf own_pd_0 rfl) rfl (by show 2 * 0 + _ ≤ _; exact Nat.le_of_eq rfl) (hb hby at_78) (fun _ _ => ⟨rfl, e81, (by decide : 0 + 0 ≤ _), (by decide : 0 + 0 ≤ _)⟩)
    dsimp only [Pt.U, Pt.locs, Pt.cells, Pt.slots] at X82 l82 y82 z82 st82 hQ82
    subst l82 y82 z82
    obtain ⟨rfl, N82q, e82⟩ := hQ82
    have N82 := Fr.app N81 N82q
    refine own_by st82 ?_
    show own_Go p e below T82 (mkF m 81 #[.val (.int c0), .val (.int i0), .val (.int s0), .val (.int t0), .val (.int u0), .val (.int nb), .val (.int cp), .val (.int (1 : Int32)), .val (.int (2 : Int32)), .val (.int (0 : Int32)), .val (.int sv), .val (.int tv), .unset, .unset, .unset] [(.int (own_pick u0 cp))]) _
    refine own_s_istore X82.here hx #[.val (.int c0), .val (.int i0), .val (.int s0), .val (.int t0), .val (.int u0), .val (.int nb), .val (.int cp), .val (.int (1 : Int32)), .val (.int (2 : Int32)), .val (.int (0 : Int32)), .val (.int sv), .val (.int tv), .val (.int (own_pick u0 cp)), .unset, .unset] (hb hby at_81) rfl ?_
    generalize huv : (own_pick u0 cp) = uv
    show own_Go p e below T82 (mkF m 83 #[.val (.int c0), .val (.int i0), .val (.int s0), .val (.int t0), .val (.int u0), .val (.int nb), .val (.int cp), .val (.int (1 : Int32)), .val (.int (2 : Int32)), .val (.int (0 : Int32)), .val (.int sv), .val (.int tv), .val (.int uv), .unset, .unset] []) _
    by_cases hm : (65535 : Int32) < cp
    ·
      obtain ⟨T83, h83, X83, e83, E83, A83, D83, -, st83⟩ := newO X82 hx hZ hown (hw _ (List.mem_of_getElem? (i := 5) rfl)) (hw _ (List.mem_of_getElem? (i := 6) rfl)) (hw _ (List.mem_of_getElem? (i := 7) rfl)) e82 (g := (mkF m 83 #[.val (.int c0), .val (.int i0), .val (.int s0), .val (.int t0), .val (.int u0), .val (.int nb), .val (.int cp), .val (.int (1 : Int32)), .val (.int (2 : Int32)), .val (.int (0 : Int32)), .val (.int sv), .val (.int tv), .val (.int uv), .unset, .unset] [])) rfl (hb hby at_83) (by decide) (by decide)
      obtain ⟨b83, g83⟩ : ∃ z, z = h0.size := ⟨_, rfl⟩
      rw [← g83] at A83 D83 st83
      have ge_b83 : n0 ≤ b83 := Nat.le_trans Z0 (Nat.le_of_eq g83.symm)
      have SZ83 : n0 ≤ h83.size := Nat.le_trans Z0 E83.1
      have f84 : Fld Z h83 b83 "com/example/tallymark/tallymark/SlotArray" "narrow" "[C" .null := D83 (Or.inl (hw _ (List.mem_of_getElem? (i := 17) rfl))) (ty := (.array .char)) (by decide)
      have f85 : Fld Z h83 b83 "com/example/tallymark/tallymark/SlotArray" "wide" "[I" .null := D83 (Or.inl (hw _ (List.mem_of_getElem? (i := 35) rfl))) (ty := (.array .int)) (by decide)
      refine own_by st83 ?_
      show own_Go p e below T83 (mkF m 86 #[.val (.int c0), .val (.int i0), .val (.int s0), .val (.int t0), .val (.int u0), .val (.int nb), .val (.int cp), .val (.int (1 : Int32)), .val (.int (2 : Int32)), .val (.int (0 : Int32)), .val (.int sv), .val (.int tv), .val (.int uv), .unset, .unset] [(.ref b83)]) _
      refine own_s_dup X83.here hx (hb hby at_86) rfl ?_
      refine own_s_iload X83.here hx (hb hby at_87) rfl ?_
      refine own_s_iconst X83.here hx (3 : Int32) (hb hby at_89) rfl ?_
      obtain ⟨_, _, ⟨T86, L86, k86, n86⟩, -, X86, ⟨Lc86, hQ86, l86, y86, z86⟩, st86⟩ := X83.specialBack hx (y := (⟨"com/example/tallymark/tallymark/SlotArray", "<init>", "(II)V"⟩ : MethodName)) rfl hown (mvT hZ (hw _ (List.mem_of_getElem? (i := 8) rfl))) (mvT hZ (hw _ (List.mem_of_getElem? (i := 9) rfl))) (mvT hZ (hw _ (List.mem_of_getElem? (i := 10) rfl))) (by decide) (backOf (W := 1) (own_iniw l Z a0 hw [] b83 cp (3 : Int32) 3 h83 n0 SZ83 hm rfl (by decide) (by decide) A83 f84 f85 ge_b83) hZ (hw _ (List.mem_of_getElem? (i := 10) rfl)) (hw _ (List.mem_of_getElem? (i := 7) rfl)) (by decide) (by decide)) (g := (mkF m 90 #[.val (.int c0), .val (.int i0), .val (.int s0), .val (.int t0), .val (.int u0), .val (.int nb), .val (.int cp), .val (.int (1 : Int32)), .val (.int (2 : Int32)), .val (.int (0 : Int32)), .val (.int sv), .val (.int tv), .val (.int uv), .unset, .unset] [(.int (3 : Int32)), (.int cp), (.ref b83), (.ref b83)])) rfl (by rw [hml]; rfl) (Steps.refl _) (a := b83) (argsL := [(.int cp), (.int (3 : Int32))]) (rest := [(.ref b83)]) (lenOf own_pd_1 rfl) rfl (by show 2 * 0 + _ ≤ _; exact Nat.le_of_eq rfl) (hb hby at_90) (fun _ _ => ⟨rfl, e83, (by decide : 1 + 1 ≤ _), (by decide : 2 + 8 ≤ _)⟩)
      dsimp only [Pt.U, Pt.locs, Pt.cells, Pt.slots] at X86 l86 y86 z86 st86 hQ86
      subst l86 y86 z86
      obtain ⟨rfl, N86q, K86, a86, ga86, na86, fn86, fa86, fz86⟩ := hQ86
      have N86 := Fr.app N82 N86q
      have f87 := A83.keep K86
      have SZ86 : n0 ≤ T86.heap.size := Nat.le_trans SZ83 K86.1
      refine own_by (fun t k => st86.trans k) ?_
      show own_Go p e below T86 (mkF m 93 #[.val (.int c0), .val (.int i0), .val (.int s0), .val (.int t0), .val (.int u0), .val (.int nb), .val (.int cp), .val (.int (1 : Int32)), .val (.int (2 : Int32)), .val (.int (0 : Int32)), .val (.int sv), .val (.int tv), .val (.int uv), .unset, .unset] [(.ref b83)]) _
      refine own_s_astore X86.here hx #[.val (.int c0), .val (.int i0), .val (.int s0), .val (.int t0), .val (.int u0), .val (.int nb), .val (.int cp), .val (.int (1 : Int32)), .val (.int (2 : Int32)), .val (.int (0 : Int32)), .val (.int sv), .val (.int tv), .val (.int uv), .val (.ref b83), .unset] (hb hby at_93) rfl rfl ?_
      refine own_s_aload X86.here hx (hb hby at_95) rfl rfl ?_
      refine own_s_iload X86.here hx (hb hby at_97) rfl ?_
      refine own_s_iload X86.here hx (hb hby at_99) rfl ?_
      obtain ⟨cq88, kq88, q88a, q88b, q88c⟩ := isOf hZ rfl f87
      obtain ⟨_, _, ⟨T88, L88, k88, n88⟩, -, X88, ⟨Lc88, hQ88, l88, y88, z88⟩, st88⟩ := X86.virtualBack hx (y := (⟨"com/example/tallymark/tallymark/SlotArray", "set", "(II)V"⟩ : MethodName)) (z := (⟨"com/example/tallymark/tallymark/SlotArray", "set", "(II)V"⟩ : MethodName)) hown (mvT hZ (hw _ (List.mem_of_getElem? (i := 18) rfl))) (mvT hZ (hw _ (List.mem_of_getElem? (i := 19) rfl))) (notFace_of_selects (args := #[]) (mvT hZ (hw _ (List.mem_of_getElem? (i := 21) rfl)))) (mvT hZ (hw _ (List.mem_of_getElem? (i := 21) rfl))) (mvT hZ (hw _ (List.mem_of_getElem? (i := 20) rfl))) (by decide) (backOf (W := 0) (own_setw l Z a0 hw [] b83 (1 : Int32) tv a86 3 1 (fun _ => (.int (0 : Int32))) T86.heap n0 SZ86 (by decide) (by decide) fn86 fz86 fa86 ga86 na86) hZ (hw _ (List.mem_of_getElem? (i := 22) rfl)) (hw _ (List.mem_of_getElem? (i := 7) rfl)) (by decide) (by decide)) q88a q88c (g := (mkF m 101 #[.val (.int c0), .val (.int i0), .val (.int s0), .val (.int t0), .val (.int u0), .val (.int nb), .val (.int cp), .val (.int (1 : Int32)), .val (.int (2 : Int32)), .val (.int (0 : Int32)), .val (.int sv), .val (.int tv), .val (.int uv), .val (.ref b83), .unset] [(.int tv), (.int (1 : Int32)), (.ref b83)])) rfl (by rw [hml]; rfl) (Steps.refl _) (argsL := [(.int (1 : Int32)), (.int tv)]) (rest := []) (lenOf own_pd_1 rfl) rfl (by show 2 * 0 + _ ≤ _; exact Nat.le_of_eq rfl) (hb hby at_101) (fun _ _ => ⟨rfl, rfl, (by decide : 2 + 0 ≤ _), (by decide : 10 + 0 ≤ _)⟩)
      dsimp only [Pt.U, Pt.locs, Pt.cells, Pt.slots] at X88 l88 y88 z88 st88 hQ88
      subst l88 y88 z88
      obtain ⟨rfl, N88q, K88, fa88⟩ := hQ88
      have N88 := Fr.app N86 N88q
      have f89 := f87.keep K88
      have f90 := fn86.keep K88 (ninS na86 nin0)
      have f91 := fz86.keep K88 (ninS na86 nin0)
      have SZ88 : n0 ≤ T88.heap.size := Nat.le_trans SZ86 K88.1
      refine own_by (fun t k => st88.trans k) ?_
      show own_Go p e below T88 (mkF m 104 #[.val (.int c0), .val (.int i0), .val (.int s0), .val (.int t0), .val (.int u0), .val (.int nb), .val (.int cp), .val (.int (1 : Int32)), .val (.int (2 : Int32)), .val (.int (0 : Int32)), .val (.int sv), .val (.int tv), .val (.int uv), .val (.ref b83), .unset] []) _
      refine own_s_aload X88.here hx (hb hby at_104) rfl rfl ?_
      refine own_s_iload X88.here hx (hb hby at_106) rfl ?_
      refine own_s_iload X88.here hx (hb hby at_108) rfl ?_
      obtain ⟨cq92, kq92, q92a, q92b, q92c⟩ := isOf hZ rfl f89
      obtain ⟨_, _, ⟨T92, L92, k92, n92⟩, -, X92, ⟨Lc92, hQ92, l92, y92, z92⟩, st92⟩ := X88.virtualBack hx (y := (⟨"com/example/tallymark/tallymark/SlotArray", "set", "(II)V"⟩ : MethodName)) (z := (⟨"com/example/tallymark/tallymark/SlotArray", "set", "(II)V"⟩ : MethodName)) hown (mvT hZ (hw _ (List.mem_of_getElem? (i := 18) rfl))) (mvT hZ (hw _ (List.mem_of_getElem? (i := 19) rfl))) (notFace_of_selects (args := #[]) (mvT hZ (hw _ (List.mem_of_getElem? (i := 21) rfl)))) (mvT hZ (hw _ (List.mem_of_getElem? (i := 21) rfl))) (mvT hZ (hw _ (List.mem_of_getElem? (i := 20) rfl))) (by decide) (backOf (W := 0) (own_setw l Z a0 hw [] b83 (2 : Int32) uv a86 3 2 (own_upd (fun _ => (.int (0 : Int32))) 1 (.int (tv + (1 : Int32)))) T88.heap n0 SZ88 (by decide) (by decide) f90 f91 fa88 ga86 na86) hZ (hw _ (List.mem_of_getElem? (i := 22) rfl)) (hw _ (List.mem_of_getElem? (i := 7) rfl)) (by decide) (by decide)) q92a q92c (g := (mkF m 110 #[.val (.int c0), .val (.int i0), .val (.int s0), .val (.int t0), .val (.int u0), .val (.int nb), .val (.int cp), .val (.int (1 : Int32)), .val (.int (2 : Int32)), .val (.int (0 : Int32)), .val (.int sv), .val (.int tv), .val (.int uv), .val (.ref b83), .unset] [(.int uv), (.int (2 : Int32)), (.ref b83)])) rfl (by rw [hml]; rfl) (Steps.refl _) (argsL := [(.int (2 : Int32)), (.int uv)]) (rest := []) (lenOf own_pd_1 rfl) rfl (by show 2 * 0 + _ ≤ _; exact Nat.le_of_eq rfl) (hb hby at_110) (fun _ _ => ⟨rfl, rfl, (by decide : 2 + 0 ≤ _), (by decide : 10 + 0 ≤ _)⟩)
      dsimp only [Pt.U, Pt.locs, Pt.cells, Pt.slots] at X92 l92 y92 z92 st92 hQ92
      subst l92 y92 z92
      obtain ⟨rfl, N92q, K92, fa92⟩ := hQ92
      have N92 := Fr.app N88 N92q
      have f93 := f89.keep K92
      have f94 := f90.keep K92 (ninS na86 nin0)
      have f95 := f91.keep K92 (ninS na86 nin0)
      have SZ92 : n0 ≤ T92.heap.size := Nat.le_trans SZ88 K92.1
      refine own_by (fun t k => st92.trans k) ?_
      show own_Go p e below T92 (mkF m 113 #[.val (.int c0), .val (.int i0), .val (.int s0), .val (.int t0), .val (.int u0), .val (.int nb), .val (.int cp), .val (.int (1 : Int32)), .val (.int (2 : Int32)), .val (.int (0 : Int32)), .val (.int sv), .val (.int tv), .val (.int uv), .val (.ref b83), .unset] []) _
      refine own_s_aload X92.here hx (hb hby at_113) rfl rfl ?_
      refine own_s_iload X92.here hx (hb hby at_115) rfl ?_
      refine own_s_iload X92.here hx (hb hby at_117) rfl ?_
      obtain ⟨cq96, kq96, q96a, q96b, q96c⟩ := isOf hZ rfl f93
      obtain ⟨_, _, ⟨T96, L96, k96, n96⟩, -, X96, ⟨Lc96, hQ96, l96, y96, z96⟩, st96⟩ := X92.virtualBack hx (y := (⟨"com/example/tallymark/tallymark/SlotArray", "set", "(II)V"⟩ : MethodName)) (z := (⟨"com/example/tallymark/tallymark/SlotArray", "set", "(II)V"⟩ : MethodName)) hown (mvT hZ (hw _ (List.mem_of_getElem? (i := 18) rfl))) (mvT hZ (hw _ (List.mem_of_getElem? (i := 19) rfl))) (notFace_of_selects (args := #[]) (mvT hZ (hw _ (List.mem_of_getElem? (i := 21) rfl)))) (mvT hZ (hw _ (List.mem_of_getElem? (i := 21) rfl))) (mvT hZ (hw _ (List.mem_of_getElem? (i := 20) rfl))) (by decide) (backOf (W := 0) (own_setw l Z a0 hw [] b83 (1 : Int32) sv a86 3 1 (own_upd (own_upd (fun _ => (.int (0 : Int32))) 1 (.int (tv + (1 : Int32)))) 2 (.int (uv + (1 : Int32)))) T92.heap n0 SZ92 (by decide) (by decide) f94 f95 fa92 ga86 na86) hZ (hw _ (List.mem_of_getElem? (i := 22) rfl)) (hw _ (List.mem_of_getElem? (i := 7) rfl)) (by decide) (by decide)) q96a q96c (g := (mkF m 119 #[.val (.int c0), .val (.int i0), .val (.int s0), .val (.int t0), .val (.int u0), .val (.int nb), .val (.int cp), .val (.int (1 : Int32)), .val (.int (2 : Int32)), .val (.int (0 : Int32)), .val (.int sv), .val (.int tv), .val (.int uv), .val (.ref b83), .unset] [(.int sv), (.int (1 : Int32)), (.ref b83)])) rfl (by rw [hml]; rfl) (Steps.refl _) (argsL := [(.int (1 : Int32)), (.int sv)]) (rest := []) (lenOf own_pd_1 rfl) rfl (by show 2 * 0 + _ ≤ _; exact Nat.le_of_eq rfl) (hb hby at_119) (fun _ _ => ⟨rfl, rfl, (by decide : 2 + 0 ≤ _), (by decide : 10 + 0 ≤ _)⟩)
      dsimp only [Pt.U, Pt.locs, Pt.cells, Pt.slots] at X96 l96 y96 z96 st96 hQ96
      subst l96 y96 z96
      obtain ⟨rfl, N96q, K96, fa96⟩ := hQ96
      have N96 := Fr.app N92 N96q
      have f97 := f93.keep K96
      have f98 := f94.keep K96 (ninS na86 nin0)
      have f99 := f95.keep K96 (ninS na86 nin0)
      have SZ96 : n0 ≤ T96.heap.size := Nat.le_trans SZ92 K96.1
      refine own_by (fun t k => st96.trans k) ?_
      show own_Go p e below T96 (mkF m 122 #[.val (.int c0), .val (.int i0), .val (.int s0), .val (.int t0), .val (.int u0), .val (.int nb), .val (.int cp), .val (.int (1 : Int32)), .val (.int (2 : Int32)), .val (.int (0 : Int32)), .val (.int sv), .val (.int tv), .val (.int uv), .val (.ref b83), .unset] []) _
      refine own_s_aload X96.here hx (hb hby at_122) rfl rfl ?_
      refine own_s_iload X96.here hx (hb hby at_124) rfl ?_
      obtain ⟨cq100, kq100, q100a, q100b, q100c⟩ := isOf hZ rfl f97
      obtain ⟨_, _, ⟨T100, L100, k100, n100⟩, -, X100, ⟨Lc100, hQ100, l100, y100, z100⟩, st100⟩ := X96.virtualBack hx (y := (⟨"com/example/tallymark/tallymark/SlotArray", "get", "(I)I"⟩ : MethodName)) (z := (⟨"com/example/tallymark/tallymark/SlotArray", "get", "(I)I"⟩ : MethodName)) hown (mvT hZ (hw _ (List.mem_of_getElem? (i := 23) rfl))) (mvT hZ (hw _ (List.mem_of_getElem? (i := 24) rfl))) (notFace_of_selects (args := #[]) (mvT hZ (hw _ (List.mem_of_getElem? (i := 26) rfl)))) (mvT hZ (hw _ (List.mem_of_getElem? (i := 26) rfl))) (mvT hZ (hw _ (List.mem_of_getElem? (i := 25) rfl))) (by decide) (backOf (W := 0) (own_getw l Z a0 hw [] b83 (1 : Int32) a86 3 1 (own_upd (own_upd (own_upd (fun _ => (.int (0 : Int32))) 1 (.int (tv + (1 : Int32)))) 2 (.int (uv + (1 : Int32)))) 1 (.int (sv + (1 : Int32)))) (sv + (1 : Int32)) T96.heap n0 SZ96 (by decide) (by decide) rfl f98 f99 fa96) hZ (hw _ (List.mem_of_getElem? (i := 27) rfl)) (hw _ (List.mem_of_getElem? (i := 7) rfl)) (by decide) (by decide)) q100a q100c (g := (mkF m 126 #[.val (.int c0), .val (.int i0), .val (.int s0), .val (.int t0), .val (.int u0), .val (.int nb), .val (.int cp), .val (.int (1 : Int32)), .val (.int (2 : Int32)), .val (.int (0 : Int32)), .val (.int sv), .val (.int tv), .val (.int uv), .val (.ref b83), .unset] [(.int (1 : Int32)), (.ref b83)])) rfl (by rw [hml]; rfl) (Steps.refl _) (argsL := [(.int (1 : Int32))]) (rest := []) (lenOf own_pd_3 rfl) rfl (by show 2 * 0 + _ ≤ _; exact Nat.le_of_eq rfl) (hb hby at_126) (fun _ _ => ⟨rfl, rfl, (by decide : 2 + 0 ≤ _), (by decide : 10 + 0 ≤ _)⟩)
      dsimp only [Pt.U, Pt.locs, Pt.cells, Pt.slots] at X100 l100 y100 z100 st100 hQ100
      subst l100 y100 z100
      obtain ⟨rfl, N100q, e100⟩ := hQ100
      have N100 := Fr.app N96 N100q
      refine own_by (fun t k => st100.trans k) ?_
      show own_Go p e below T100 (mkF m 129 #[.val (.int c0), .val (.int i0), .val (.int s0), .val (.int t0), .val (.int u0), .val (.int nb), .val (.int cp), .val (.int (1 : Int32)), .val (.int (2 : Int32)), .val (.int (0 : Int32)), .val (.int sv), .val (.int tv), .val (.int uv), .val (.ref b83), .unset] [(.int ((sv + (1 : Int32)) - (1 : Int32)))]) _
      refine own_s_iload X100.here hx (hb hby at_129) rfl ?_
      refine own_s_icmpNo X100.here hx (hb hby at_131) (Jvm.Free.XT.ii_ne_f ((own_as _))) ?_
      refine own_s_iconst X100.here hx (1 : Int32) (hb hby at_134) rfl ?_
      show own_Go p e below T100 (mkF m 135 #[.val (.int c0), .val (.int i0), .val (.int s0), .val (.int t0), .val (.int u0), .val (.int nb), .val (.int cp), .val (.int (1 : Int32)), .val (.int (2 : Int32)), .val (.int (0 : Int32)), .val (.int sv), .val (.int tv), .val (.int uv), .val (.ref b83), .unset] [(.int (1 : Int32))]) _
      refine own_s_goto X100.here hx 139 (hb hby at_135) (by decide) (by decide) ?_
      refine own_s_istore X100.here hx #[.val (.int c0), .val (.int i0), .val (.int s0), .val (.int t0), .val (.int u0), .val (.int nb), .val (.int cp), .val (.int (1 : Int32)), .val (.int (2 : Int32)), .val (.int (0 : Int32)), .val (.int sv), .val (.int tv), .val (.int uv), .val (.ref b83), .val (.int (1 : Int32))] (hb hby at_139) rfl ?_
      refine own_s_iload X100.here hx (hb hby at_141) rfl ?_
      refine own_s_ifNo X100.here hx (hb hby at_143) (Jvm.Free.XT.i0_eq_f ((by decide))) ?_
      refine own_s_aload X100.here hx (hb hby at_146) rfl rfl ?_
      refine own_s_iload X100.here hx (hb hby at_148) rfl ?_
      obtain ⟨cq101, kq101, q101a, q101b, q101c⟩ := isOf hZ e100 f97
      obtain ⟨_, _, ⟨T101, L101, k101, n101⟩, -, X101, ⟨Lc101, hQ101, l101, y101, z101⟩, st101⟩ := X100.virtualBack hx (y := (⟨"com/example/tallymark/tallymark/SlotArray", "get", "(I)I"⟩ : MethodName)) (z := (⟨"com/example/tallymark/tallymark/SlotArray", "get", "(I)I"⟩ : MethodName)) hown (mvT hZ (hw _ (List.mem_of_getElem? (i := 23) rfl))) (mvT hZ (hw _ (List.mem_of_getElem? (i := 24) rfl))) (notFace_of_selects (args := #[]) (mvT hZ (hw _ (List.mem_of_getElem? (i := 26) rfl)))) (mvT hZ (hw _ (List.mem_of_getElem? (i := 26) rfl))) (mvT hZ (hw _ (List.mem_of_getElem? (i := 25) rfl))) (by decide) (backOf (W := 0) (own_getw l Z a0 hw [] b83 (2 : Int32) a86 3 2 (own_upd (own_upd (own_upd (fun _ => (.int (0 : Int32))) 1 (.int (tv + (1 : Int32)))) 2 (.int (uv + (1 : Int32)))) 1 (.int (sv + (1 : Int32)))) (uv + (1 : Int32)) T96.heap n0 SZ96 (by decide) (by decide) rfl f98 f99 fa96) hZ (hw _ (List.mem_of_getElem? (i := 27) rfl)) (hw _ (List.mem_of_getElem? (i := 7) rfl)) (by decide) (by decide)) q101a q101c (g := (mkF m 150 #[.val (.int c0), .val (.int i0), .val (.int s0), .val (.int t0), .val (.int u0), .val (.int nb), .val (.int cp), .val (.int (1 : Int32)), .val (.int (2 : Int32)), .val (.int (0 : Int32)), .val (.int sv), .val (.int tv), .val (.int uv), .val (.ref b83), .val (.int (1 : Int32))] [(.int (2 : Int32)), (.ref b83)])) rfl (by rw [hml]; rfl) (Steps.refl _) (argsL := [(.int (2 : Int32))]) (rest := []) (lenOf own_pd_3 rfl) rfl (by show 2 * 0 + _ ≤ _; exact Nat.le_of_eq rfl) (hb hby at_150) (fun _ _ => ⟨rfl, e100, (by decide : 2 + 0 ≤ _), (by decide : 10 + 0 ≤ _)⟩)
      dsimp only [Pt.U, Pt.locs, Pt.cells, Pt.slots] at X101 l101 y101 z101 st101 hQ101
      subst l101 y101 z101
      obtain ⟨rfl, N101q, e101⟩ := hQ101
      have N101 := Fr.app N100 N101q
      refine own_by (fun t k => st101.trans k) ?_
      show own_Go p e below T101 (mkF m 153 #[.val (.int c0), .val (.int i0), .val (.int s0), .val (.int t0), .val (.int u0), .val (.int nb), .val (.int cp), .val (.int (1 : Int32)), .val (.int (2 : Int32)), .val (.int (0 : Int32)), .val (.int sv), .val (.int tv), .val (.int uv), .val (.ref b83), .val (.int (1 : Int32))] [(.int ((uv + (1 : Int32)) - (1 : Int32)))]) _
      refine own_s_iload X101.here hx (hb hby at_153) rfl ?_
      refine own_s_icmpNo X101.here hx (hb hby at_155) (Jvm.Free.XT.ii_ne_f ((own_as _))) ?_
      refine own_s_iconst X101.here hx (1 : Int32) (hb hby at_158) rfl ?_
      show own_Go p e below T101 (mkF m 159 #[.val (.int c0), .val (.int i0), .val (.int s0), .val (.int t0), .val (.int u0), .val (.int nb), .val (.int cp), .val (.int (1 : Int32)), .val (.int (2 : Int32)), .val (.int (0 : Int32)), .val (.int sv), .val (.int tv), .val (.int uv), .val (.ref b83), .val (.int (1 : Int32))] [(.int (1 : Int32))]) _
      refine own_s_goto X101.here hx 163 (hb hby at_159) (by decide) (by decide) ?_
      refine own_s_istore X101.here hx #[.val (.int c0), .val (.int i0), .val (.int s0), .val (.int t0), .val (.int u0), .val (.int nb), .val (.int cp), .val (.int (1 : Int32)), .val (.int (2 : Int32)), .val (.int (0 : Int32)), .val (.int sv), .val (.int tv), .val (.int uv), .val (.ref b83), .val (.int (1 : Int32))] (hb hby at_163) rfl ?_
      refine own_s_iload X101.here hx (hb hby at_165) rfl ?_
      refine own_s_ifNo X101.here hx (hb hby at_167) (Jvm.Free.XT.i0_eq_f ((by decide))) ?_
      refine own_s_aload X101.here hx (hb hby at_170) rfl rfl ?_
      refine own_s_iload X101.here hx (hb hby at_172) rfl ?_
      obtain ⟨cq102, kq102, q102a, q102b, q102c⟩ := isOf hZ e101 f97
      obtain ⟨_, _, ⟨T102, L102, k102, n102⟩, -, X102, ⟨Lc102, hQ102, l102, y102, z102⟩, st102⟩ := X101.virtualBack hx (y := (⟨"com/example/tallymark/tallymark/SlotArray", "get", "(I)I"⟩ : MethodName)) (z := (⟨"com/example/tallymark/tallymark/SlotArray", "get", "(I)I"⟩ : MethodName)) hown (mvT hZ (hw _ (List.mem_of_getElem? (i := 23) rfl))) (mvT hZ (hw _ (List.mem_of_getElem? (i := 24) rfl))) (notFace_of_selects (args := #[]) (mvT hZ (hw _ (List.mem_of_getElem? (i := 26) rfl)))) (mvT hZ (hw _ (List.mem_of_getElem? (i := 26) rfl))) (mvT hZ (hw _ (List.mem_of_getElem? (i := 25) rfl))) (by decide) (backOf (W := 0) (own_getw l Z a0 hw [] b83 (0 : Int32) a86 3 0 (own_upd (own_upd (own_upd (fun _ => (.int (0 : Int32))) 1 (.int (tv + (1 : Int32)))) 2 (.int (uv + (1 : Int32)))) 1 (.int (sv + (1 : Int32)))) (0 : Int32) T96.heap n0 SZ96 (by decide) (by decide) rfl f98 f99 fa96) hZ (hw _ (List.mem_of_getElem? (i := 27) rfl)) (hw _ (List.mem_of_getElem? (i := 7) rfl)) (by decide) (by decide)) q102a q102c (g := (mkF m 174 #[.val (.int c0), .val (.int i0), .val (.int s0), .val (.int t0), .val (.int u0), .val (.int nb), .val (.int cp), .val (.int (1 : Int32)), .val (.int (2 : Int32)), .val (.int (0 : Int32)), .val (.int sv), .val (.int tv), .val (.int uv), .val (.ref b83), .val (.int (1 : Int32))] [(.int (0 : Int32)), (.ref b83)])) rfl (by rw [hml]; rfl) (Steps.refl _) (argsL := [(.int (0 : Int32))]) (rest := []) (lenOf own_pd_3 rfl) rfl (by show 2 * 0 + _ ≤ _; exact Nat.le_of_eq rfl) (hb hby at_174) (fun _ _ => ⟨rfl, e101, (by decide : 2 + 0 ≤ _), (by decide : 10 + 0 ≤ _)⟩)
      dsimp only [Pt.U, Pt.locs, Pt.cells, Pt.slots] at X102 l102 y102 z102 st102 hQ102
      subst l102 y102 z102
      obtain ⟨rfl, N102q, e102⟩ := hQ102
      have N102 := Fr.app N101 N102q
      refine own_by (fun t k => st102.trans k) ?_
      show own_Go p e below T102 (mkF m 177 #[.val (.int c0), .val (.int i0), .val (.int s0), .val (.int t0), .val (.int u0), .val (.int nb), .val (.int cp), .val (.int (1 : Int32)), .val (.int (2 : Int32)), .val (.int (0 : Int32)), .val (.int sv), .val (.int tv), .val (.int uv), .val (.ref b83), .val (.int (1 : Int32))] [(.int ((0 : Int32) - (1 : Int32)))]) _
      refine own_s_iconst X102.here hx (-1 : Int32) (hb hby at_177) rfl ?_
      refine own_s_icmpNo X102.here hx (hb hby at_178) (Jvm.Free.XT.ii_ne_f ((by decide))) ?_
      refine own_s_iconst X102.here hx (1 : Int32) (hb hby at_181) rfl ?_
      show own_Go p e below T102 (mkF m 182 #[.val (.int c0), .val (.int i0), .val (.int s0), .val (.int t0), .val (.int u0), .val (.int nb), .val (.int cp), .val (.int (1 : Int32)), .val (.int (2 : Int32)), .val (.int (0 : Int32)), .val (.int sv), .val (.int tv), .val (.int uv), .val (.ref b83), .val (.int (1 : Int32))] [(.int (1 : Int32))]) _
      refine own_s_goto X102.here hx 186 (hb hby at_182) (by decide) (by decide) ?_
      refine own_s_istore X102.here hx #[.val (.int c0), .val (.int i0), .val (.int s0), .val (.int t0), .val (.int u0), .val (.int nb), .val (.int cp), .val (.int (1 : Int32)), .val (.int (2 : Int32)), .val (.int (0 : Int32)), .val (.int sv), .val (.int tv), .val (.int uv), .val (.ref b83), .val (.int (1 : Int32))] (hb hby at_186) rfl ?_
      refine own_s_iload X102.here hx (hb hby at_188) rfl ?_
      refine own_s_ifNo X102.here hx (hb hby at_190) (Jvm.Free.XT.i0_eq_f ((by decide))) ?_
      refine own_s_aload X102.here hx (hb hby at_193) rfl rfl ?_
      obtain ⟨cq103, kq103, q103a, q103b, q103c⟩ := isOf hZ e102 f97
      obtain ⟨_, _, ⟨T103, L103, k103, n103⟩, -, X103, ⟨Lc103, hQ103, l103, y103, z103⟩, st103⟩ := X102.virtualBack hx (y := (⟨"com/example/tallymark/tallymark/SlotArray", "length", "()I"⟩ : MethodName)) (z := (⟨"com/example/tallymark/tallymark/SlotArray", "length", "()I"⟩ : MethodName)) hown (mvT hZ (hw _ (List.mem_of_getElem? (i := 28) rfl))) (mvT hZ (hw _ (List.mem_of_getElem? (i := 29) rfl))) (notFace_of_selects (args := #[]) (mvT hZ (hw _ (List.mem_of_getElem? (i := 31) rfl)))) (mvT hZ (hw _ (List.mem_of_getElem? (i := 31) rfl))) (mvT hZ (hw _ (List.mem_of_getElem? (i := 30) rfl))) (by decide) (backOf (W := 0) (own_lenw l Z a0 hw [] b83 a86 3 (own_upd (own_upd (own_upd (fun _ => (.int (0 : Int32))) 1 (.int (tv + (1 : Int32)))) 2 (.int (uv + (1 : Int32)))) 1 (.int (sv + (1 : Int32)))) (3 : Int32) T96.heap n0 SZ96 rfl f98 f99 fa96) hZ (hw _ (List.mem_of_getElem? (i := 32) rfl)) (hw _ (List.mem_of_getElem? (i := 7) rfl)) (by decide) (by decide)) q103a q103c (g := (mkF m 195 #[.val (.int c0), .val (.int i0), .val (.int s0), .val (.int t0), .val (.int u0), .val (.int nb), .val (.int cp), .val (.int (1 : Int32)), .val (.int (2 : Int32)), .val (.int (0 : Int32)), .val (.int sv), .val (.int tv), .val (.int uv), .val (.ref b83), .val (.int (1 : Int32))] [(.ref b83)])) rfl (by rw [hml]; rfl) (Steps.refl _) (argsL := []) (rest := []) (lenOf own_pd_4 rfl) rfl (by show 2 * 0 + _ ≤ _; exact Nat.le_of_eq rfl) (hb hby at_195) (fun _ _ => ⟨rfl, e102, (by decide : 2 + 0 ≤ _), (by decide : 10 + 0 ≤ _)⟩)
      dsimp only [Pt.U, Pt.locs, Pt.cells, Pt.slots] at X103 l103 y103 z103 st103 hQ103
      subst l103 y103 z103
      obtain ⟨rfl, N103q, e103⟩ := hQ103
      have N103 := Fr.app N102 N103q
      refine own_by (fun t k => st103.trans k) ?_
      show own_Go p e below T103 (mkF m 198 #[.val (.int c0), .val (.int i0), .val (.int s0), .val (.int t0), .val (.int u0), .val (.int nb), .val (.int cp), .val (.int (1 : Int32)), .val (.int (2 : Int32)), .val (.int (0 : Int32)), .val (.int sv), .val (.int tv), .val (.int uv), .val (.ref b83), .val (.int (1 : Int32))] [(.int (3 : Int32))]) _
      refine own_s_iconst X103.here hx (3 : Int32) (hb hby at_198) rfl ?_
      refine own_s_icmpNo X103.here hx (hb hby at_199) (Jvm.Free.XT.ii_ne_f ((by decide))) ?_
      refine own_s_iconst X103.here hx (1 : Int32) (hb hby at_202) rfl ?_
      show own_Go p e below T103 (mkF m 203 #[.val (.int c0), .val (.int i0), .val (.int s0), .val (.int t0), .val (.int u0), .val (.int nb), .val (.int cp), .val (.int (1 : Int32)), .val (.int (2 : Int32)), .val (.int (0 : Int32)), .val (.int sv), .val (.int tv), .val (.int uv), .val (.ref b83), .val (.int (1 : Int32))] [(.int (1 : Int32))]) _
      refine own_s_goto X103.here hx 207 (hb hby at_203) (by decide) (by decide) ?_
      refine own_s_istore X103.here hx #[.val (.int c0), .val (.int i0), .val (.int s0), .val (.int t0), .val (.int u0), .val (.int nb), .val (.int cp), .val (.int (1 : Int32)), .val (.int (2 : Int32)), .val (.int (0 : Int32)), .val (.int sv), .val (.int tv), .val (.int uv), .val (.ref b83), .val (.int (1 : Int32))] (hb hby at_207) rfl ?_
      refine own_s_iload X103.here hx (hb hby at_209) rfl ?_
      refine own_retZ X103 hx hret hlk (hb hby at_211) rfl (by decide) (by decide) ?_
      exact ⟨rfl, N103⟩
    ·
      have hnsv : nar .char ((sv + (1 : Int32)).toUInt32.toUInt16.toUInt32.toInt32) = (sv + (1 : Int32)) := by rw [← hsv]; exact own_pick_n s0 cp hcb hm
      have hntv : nar .char ((tv + (1 : Int32)).toUInt32.toUInt16.toUInt32.toInt32) = (tv + (1 : Int32)) := by rw [← htv]; exact own_pick_n t0 cp hcb hm
      have hnuv : nar .char ((uv + (1 : Int32)).toUInt32.toUInt16.toUInt32.toInt32) = (uv + (1 : Int32)) := by rw [← huv]; exact own_pick_n u0 cp hcb hm
      obtain ⟨T104, h104, X104, e104, E104, A104, D104, -, st104⟩ := newO X82 hx hZ hown (hw _ (List.mem_of_getElem? (i := 5) rfl)) (hw _ (List.mem_of_getElem? (i := 6) rfl)) (hw _ (List.mem_of_getElem? (i := 7) rfl)) e82 (g := (mkF m 83 #[.val (.int c0), .val (.int i0), .val (.int s0), .val (.int t0), .val (.int u0), .val (.int nb), .val (.int cp), .val (.int (1 : Int32)), .val (.int (2 : Int32)), .val (.int (0 : Int32)), .val (.int sv), .val (.int tv), .val (.int uv), .unset, .unset] [])) rfl (hb hby at_83) (by decide) (by decide)
      obtain ⟨b104, g104⟩ : ∃ z, z = h0.size := ⟨_, rfl⟩
      rw [← g104] at A104 D104 st104
      have ge_b104 : n0 ≤ b104 := Nat.le_trans Z0 (Nat.le_of_eq g104.symm)
      have SZ104 : n0 ≤ h104.size := Nat.le_trans Z0 E104.1
      have f105 : Fld Z h104 b104 "com/example/tallymark/tallymark/SlotArray" "narrow" "[C" .null := D104 (Or.inl (hw _ (List.mem_of_getElem? (i := 17) rfl))) (ty := (.array .char)) (by decide)
      have f106 : Fld Z h104 b104 "com/example/tallymark/tallymark/SlotArray" "wide" "[I" .null := D104 (Or.inl (hw _ (List.mem_of_getElem? (i := 35) rfl))) (ty := (.array .int)) (by decide)
      refine own_by st104 ?_
      show own_Go p e below T104 (mkF m 86 #[.val (.int c0), .val (.int i0), .val (.int s0), .val (.int t0), .val (.int u0), .val (.int nb), .val (.int cp), .val (.int (1 : Int32)), .val (.int (2 : Int32)), .val (.int (0 : Int32)), .val (.int sv), .val (.int tv), .val (.int uv), .unset, .unset] [(.ref b104)]) _
      refine own_s_dup X104.here hx (hb hby at_86) rfl ?_
      refine own_s_iload X104.here hx (hb hby at_87) rfl ?_
      refine own_s_iconst X104.here hx (3 : Int32) (hb hby at_89) rfl ?_
      obtain ⟨_, _, ⟨T107, L107, k107, n107⟩, -, X107, ⟨Lc107, hQ107, l107, y107, z107⟩, st107⟩ := X104.specialBack hx (y := (⟨"com/example/tallymark/tallymark/SlotArray", "<init>", "(II)V"⟩ : MethodName)) rfl hown (mvT hZ (hw _ (List.mem_of_getElem? (i := 8) rfl))) (mvT hZ (hw _ (List.mem_of_getElem? (i := 9) rfl))) (mvT hZ (hw _ (List.mem_of_getElem? (i := 10) rfl))) (by decide) (backOf (W := 1) (own_inin l Z a0 hw [] b104 cp (3 : Int32) 3 h104 n0 SZ104 hm rfl (by decide) (by decide) A104 f105 f106 ge_b104) hZ (hw _ (List.mem_of_getElem? (i := 10) rfl)) (hw _ (List.mem_of_getElem? (i := 7) rfl)) (by decide) (by decide)) (g := (mkF m 90 #[.val (.int c0), .val (.int i0), .val (.int s0), .val (.int t0), .val (.int u0), .val (.int nb), .val (.int cp), .val (.int (1 : Int32)), .val (.int (2 : Int32)), .val (.int (0 : Int32)), .val (.int sv), .val (.int tv), .val (.int uv), .unset, .unset] [(.int (3 : Int32)), (.int cp), (.ref b104), (.ref b104)])) rfl (by rw [hml]; rfl) (Steps.refl _) (a := b104) (argsL := [(.int cp), (.int (3 : Int32))]) (rest := [(.ref b104)]) (lenOf own_pd_1 rfl) rfl (by show 2 * 0 + _ ≤ _; exact Nat.le_of_eq rfl) (hb hby at_90) (fun _ _ => ⟨rfl, e104, (by decide : 1 + 1 ≤ _), (by decide : 2 + 8 ≤ _)⟩)
      dsimp only [Pt.U, Pt.locs, Pt.cells, Pt.slots] at X107 l107 y107 z107 st107 hQ107
      subst l107 y107 z107
      obtain ⟨rfl, N107q, K107, a107, ga107, na107, fn107, fa107⟩ := hQ107
      have N107 := Fr.app N82 N107q
      have f108 := A104.keep K107
      have SZ107 : n0 ≤ T107.heap.size := Nat.le_trans SZ104 K107.1
      refine own_by (fun t k => st107.trans k) ?_
      show own_Go p e below T107 (mkF m 93 #[.val (.int c0), .val (.int i0), .val (.int s0), .val (.int t0), .val (.int u0), .val (.int nb), .val (.int cp), .val (.int (1 : Int32)), .val (.int (2 : Int32)), .val (.int (0 : Int32)), .val (.int sv), .val (.int tv), .val (.int uv), .unset, .unset] [(.ref b104)]) _
      refine own_s_astore X107.here hx #[.val (.int c0), .val (.int i0), .val (.int s0), .val (.int t0), .val (.int u0), .val (.int nb), .val (.int cp), .val (.int (1 : Int32)), .val (.int (2 : Int32)), .val (.int (0 : Int32)), .val (.int sv), .val (.int tv), .val (.int uv), .val (.ref b104), .unset] (hb hby at_93) rfl rfl ?_
      refine own_s_aload X107.here hx (hb hby at_95) rfl rfl ?_
      refine own_s_iload X107.here hx (hb hby at_97) rfl ?_
      refine own_s_iload X107.here hx (hb hby at_99) rfl ?_
      obtain ⟨cq109, kq109, q109a, q109b, q109c⟩ := isOf hZ rfl f108
      obtain ⟨_, _, ⟨T109, L109, k109, n109⟩, -, X109, ⟨Lc109, hQ109, l109, y109, z109⟩, st109⟩ := X107.virtualBack hx (y := (⟨"com/example/tallymark/tallymark/SlotArray", "set", "(II)V"⟩ : MethodName)) (z := (⟨"com/example/tallymark/tallymark/SlotArray", "set", "(II)V"⟩ : MethodName)) hown (mvT hZ (hw _ (List.mem_of_getElem? (i := 18) rfl))) (mvT hZ (hw _ (List.mem_of_getElem? (i := 19) rfl))) (notFace_of_selects (args := #[]) (mvT hZ (hw _ (List.mem_of_getElem? (i := 21) rfl)))) (mvT hZ (hw _ (List.mem_of_getElem? (i := 21) rfl))) (mvT hZ (hw _ (List.mem_of_getElem? (i := 20) rfl))) (by decide) (backOf (W := 0) (own_setn l Z a0 hw [] b104 (1 : Int32) tv a107 3 1 (fun _ => (.int (0 : Int32))) T107.heap n0 SZ107 (by decide) (by decide) hntv fn107 fa107 ga107 na107) hZ (hw _ (List.mem_of_getElem? (i := 22) rfl)) (hw _ (List.mem_of_getElem? (i := 7) rfl)) (by decide) (by decide)) q109a q109c (g := (mkF m 101 #[.val (.int c0), .val (.int i0), .val (.int s0), .val (.int t0), .val (.int u0), .val (.int nb), .val (.int cp), .val (.int (1 : Int32)), .val (.int (2 : Int32)), .val (.int (0 : Int32)), .val (.int sv), .val (.int tv), .val (.int uv), .val (.ref b104), .unset] [(.int tv), (.int (1 : Int32)), (.ref b104)])) rfl (by rw [hml]; rfl) (Steps.refl _) (argsL := [(.int (1 : Int32)), (.int tv)]) (rest := []) (lenOf own_pd_1 rfl) rfl (by show 2 * 0 + _ ≤ _; exact Nat.le_of_eq rfl) (hb hby at_101) (fun _ _ => ⟨rfl, rfl, (by decide : 2 + 0 ≤ _), (by decide : 10 + 0 ≤ _)⟩)
      dsimp only [Pt.U, Pt.locs, Pt.cells, Pt.slots] at X109 l109 y109 z109 st109 hQ109
      subst l109 y109 z109
      obtain ⟨rfl, N109q, K109, fa109⟩ := hQ109
      have N109 := Fr.app N107 N109q
      have f110 := f108.keep K109
      have f111 := fn107.keep K109 (ninS na107 nin0)
      have SZ109 : n0 ≤ T109.heap.size := Nat.le_trans SZ107 K109.1
      refine own_by (fun t k => st109.trans k) ?_
      show own_Go p e below T109 (mkF m 104 #[.val (.int c0), .val (.int i0), .val (.int s0), .val (.int t0), .val (.int u0), .val (.int nb), .val (.int cp), .val (.int (1 : Int32)), .val (.int (2 : Int32)), .val (.int (0 : Int32)), .val (.int sv), .val (.int tv), .val (.int uv), .val (.ref b104), .unset] []) _
      refine own_s_aload X109.here hx (hb hby at_104) rfl rfl ?_
      refine own_s_iload X109.here hx (hb hby at_106) rfl ?_
      refine own_s_iload X109.here hx (hb hby at_108) rfl ?_
      obtain ⟨cq112, kq112, q112a, q112b, q112c⟩ := isOf hZ rfl f110
      obtain ⟨_, _, ⟨T112, L112, k112, n112⟩, -, X112, ⟨Lc112, hQ112, l112, y112, z112⟩, st112⟩ := X109.virtualBack hx (y := (⟨"com/example/tallymark/tallymark/SlotArray", "set", "(II)V"⟩ : MethodName)) (z := (⟨"com/example/tallymark/tallymark/SlotArray", "set", "(II)V"⟩ : MethodName)) hown (mvT hZ (hw _ (List.mem_of_getElem? (i := 18) rfl))) (mvT hZ (hw _ (List.mem_of_getElem? (i := 19) rfl))) (notFace_of_selects (args := #[]) (mvT hZ (hw _ (List.mem_of_getElem? (i := 21) rfl)))) (mvT hZ (hw _ (List.mem_of_getElem? (i := 21) rfl))) (mvT hZ (hw _ (List.mem_of_getElem? (i := 20) rfl))) (by decide) (backOf (W := 0) (own_setn l Z a0 hw [] b104 (2 : Int32) uv a107 3 2 (own_upd (fun _ => (.int (0 : Int32))) 1 (.int (tv + (1 : Int32)))) T109.heap n0 SZ109 (by decide) (by decide) hnuv f111 fa109 ga107 na107) hZ (hw _ (List.mem_of_getElem? (i := 22) rfl)) (hw _ (List.mem_of_getElem? (i := 7) rfl)) (by decide) (by decide)) q112a q112c (g := (mkF m 110 #[.val (.int c0), .val (.int i0), .val (.int s0), .val (.int t0), .val (.int u0), .val (.int nb), .val (.int cp), .val (.int (1 : Int32)), .val (.int (2 : Int32)), .val (.int (0 : Int32)), .val (.int sv), .val (.int tv), .val (.int uv), .val (.ref b104), .unset] [(.int uv), (.int (2 : Int32)), (.ref b104)])) rfl (by rw [hml]; rfl) (Steps.refl _) (argsL := [(.int (2 : Int32)), (.int uv)]) (rest := []) (lenOf own_pd_1 rfl) rfl (by show 2 * 0 + _ ≤ _; exact Nat.le_of_eq rfl) (hb hby at_110) (fun _ _ => ⟨rfl, rfl, (by decide : 2 + 0 ≤ _), (by decide : 10 + 0 ≤ _)⟩)
      dsimp only [Pt.U, Pt.locs, Pt.cells, Pt.slots] at X112 l112 y112 z112 st112 hQ112
      subst l112 y112 z112
      obtain ⟨rfl, N112q, K112, fa112⟩ := hQ112
      have N112 := Fr.app N109 N112q
      have f113 := f110.keep K112
      have f114 := f111.keep K112 (ninS na107 nin0)
      have SZ112 : n0 ≤ T112.heap.size := Nat.le_trans SZ109 K112.1
      refine own_by (fun t k => st112.trans k) ?_
      show own_Go p e below T112 (mkF m 113 #[.val (.int c0), .val (.int i0), .val (.int s0), .val (.int t0), .val (.int u0), .val (.int nb), .val (.int cp), .val (.int (1 : Int32)), .val (.int (2 : Int32)), .val (.int (0 : Int32)), .val (.int sv), .val (.int tv), .val (.int uv), .val (.ref b104), .unset] []) _
      refine own_s_aload X112.here hx (hb hby at_113) rfl rfl ?_
      refine own_s_iload X112.here hx (hb hby at_115) rfl ?_
      refine own_s_iload X112.here hx (hb hby at_117) rfl ?_
      obtain ⟨cq115, kq115, q115a, q115b, q115c⟩ := isOf hZ rfl f113
      obtain ⟨_, _, ⟨T115, L115, k115, n115⟩, -, X115, ⟨Lc115, hQ115, l115, y115, z115⟩, st115⟩ := X112.virtualBack hx (y := (⟨"com/example/tallymark/tallymark/SlotArray", "set", "(II)V"⟩ : MethodName)) (z := (⟨"com/example/tallymark/tallymark/SlotArray", "set", "(II)V"⟩ : MethodName)) hown (mvT hZ (hw _ (List.mem_of_getElem? (i := 18) rfl))) (mvT hZ (hw _ (List.mem_of_getElem? (i := 19) rfl))) (notFace_of_selects (args := #[]) (mvT hZ (hw _ (List.mem_of_getElem? (i := 21) rfl)))) (mvT hZ (hw _ (List.mem_of_getElem? (i := 21) rfl))) (mvT hZ (hw _ (List.mem_of_getElem? (i := 20) rfl))) (by decide) (backOf (W := 0) (own_setn l Z a0 hw [] b104 (1 : Int32) sv a107 3 1 (own_upd (own_upd (fun _ => (.int (0 : Int32))) 1 (.int (tv + (1 : Int32)))) 2 (.int (uv + (1 : Int32)))) T112.heap n0 SZ112 (by decide) (by decide) hnsv f114 fa112 ga107 na107) hZ (hw _ (List.mem_of_getElem? (i := 22) rfl)) (hw _ (List.mem_of_getElem? (i := 7) rfl)) (by decide) (by decide)) q115a q115c (g := (mkF m 119 #[.val (.int c0), .val (.int i0), .val (.int s0), .val (.int t0), .val (.int u0), .val (.int nb), .val (.int cp), .val (.int (1 : Int32)), .val (.int (2 : Int32)), .val (.int (0 : Int32)), .val (.int sv), .val (.int tv), .val (.int uv), .val (.ref b104), .unset] [(.int sv), (.int (1 : Int32)), (.ref b104)])) rfl (by rw [hml]; rfl) (Steps.refl _) (argsL := [(.int (1 : Int32)), (.int sv)]) (rest := []) (lenOf own_pd_1 rfl) rfl (by show 2 * 0 + _ ≤ _; exact Nat.le_of_eq rfl) (hb hby at_119) (fun _ _ => ⟨rfl, rfl, (by decide : 2 + 0 ≤ _), (by decide : 10 + 0 ≤ _)⟩)
      dsimp only [Pt.U, Pt.locs, Pt.cells, Pt.slots] at X115 l115 y115 z115 st115 hQ115
      subst l115 y115 z115
      obtain ⟨rfl, N115q, K115, fa115⟩ := hQ115
      have N115 := Fr.app N112 N115q
      have f116 := f113.keep K115
      have f117 := f114.keep K115 (ninS na107 nin0)
      have SZ115 : n0 ≤ T115.heap.size := Nat.le_trans SZ112 K115.1
      refine own_by (fun t k => st115.trans k) ?_
      show own_Go p e below T115 (mkF m 122 #[.val (.int c0), .val (.int i0), .val (.int s0), .val (.int t0), .val (.int u0), .val (.int nb), .val (.int cp), .val (.int (1 : Int32)), .val (.int (2 : Int32)), .val (.int (0 : Int32)), .val (.int sv), .val (.int tv), .val (.int uv), .val (.ref b104), .unset] []) _
      refine own_s_aload X115.here hx (hb hby at_122) rfl rfl ?_
      refine own_s_iload X115.here hx (hb hby at_124) rfl ?_
      obtain ⟨cq118, kq118, q118a, q118b, q118c⟩ := isOf hZ rfl f116
      obtain ⟨_, _, ⟨T118, L118, k118, n118⟩, -, X118, ⟨Lc118, hQ118, l118, y118, z118⟩, st118⟩ := X115.virtualBack hx (y := (⟨"com/example/tallymark/tallymark/SlotArray", "get", "(I)I"⟩ : MethodName)) (z := (⟨"com/example/tallymark/tallymark/SlotArray", "get", "(I)I"⟩ : MethodName)) hown (mvT hZ (hw _ (List.mem_of_getElem? (i := 23) rfl))) (mvT hZ (hw _ (List.mem_of_getElem? (i := 24) rfl))) (notFace_of_selects (args := #[]) (mvT hZ (hw _ (List.mem_of_getElem? (i := 26) rfl)))) (mvT hZ (hw _ (List.mem_of_getElem? (i := 26) rfl))) (mvT hZ (hw _ (List.mem_of_getElem? (i := 25) rfl))) (by decide) (backOf (W := 0) (own_getn l Z a0 hw [] b104 (1 : Int32) a107 3 1 (own_upd (own_upd (own_upd (fun _ => (.int (0 : Int32))) 1 (.int (tv + (1 : Int32)))) 2 (.int (uv + (1 : Int32)))) 1 (.int (sv + (1 : Int32)))) (sv + (1 : Int32)) T115.heap n0 SZ115 (by decide) (by decide) rfl f117 fa115) hZ (hw _ (List.mem_of_getElem? (i := 27) rfl)) (hw _ (List.mem_of_getElem? (i := 7) rfl)) (by decide) (by decide)) q118a q118c (g := (mkF m 126 #[.val (.int c0), .val (.int i0), .val (.int s0), .val (.int t0), .val (.int u0), .val (.int nb), .val (.int cp), .val (.int (1 : Int32)), .val (.int (2 : Int32)), .val (.int (0 : Int32)), .val (.int sv), .val (.int tv), .val (.int uv), .val (.ref b104), .unset] [(.int (1 : Int32)), (.ref b104)])) rfl (by rw [hml]; rfl) (Steps.refl _) (argsL := [(.int (1 : Int32))]) (rest := []) (lenOf own_pd_3 rfl) rfl (by show 2 * 0 + _ ≤ _; exact Nat.le_of_eq rfl) (hb hby at_126) (fun _ _ => ⟨rfl, rfl, (by decide : 2 + 0 ≤ _), (by decide : 10 + 0 ≤ _)⟩)
      dsimp only [Pt.U, Pt.locs, Pt.cells, Pt.slots] at X118 l118 y118 z118 st118 hQ118
      subst l118 y118 z118
      obtain ⟨rfl, N118q, e118⟩ := hQ118
      have N118 := Fr.app N115 N118q
      refine own_by (fun t k => st118.trans k) ?_
      show own_Go p e below T118 (mkF m 129 #[.val (.int c0), .val (.int i0), .val (.int s0), .val (.int t0), .val (.int u0), .val (.int nb), .val (.int cp), .val (.int (1 : Int32)), .val (.int (2 : Int32)), .val (.int (0 : Int32)), .val (.int sv), .val (.int tv), .val (.int uv), .val (.ref b104), .unset] [(.int ((sv + (1 : Int32)) - (1 : Int32)))]) _
      refine own_s_iload X118.here hx (hb hby at_129) rfl ?_
      refine own_s_icmpNo X118.here hx (hb hby at_131) (Jvm.Free.XT.ii_ne_f ((own_as _))) ?_
      refine own_s_iconst X118.here hx (1 : Int32) (hb hby at_134) rfl ?_
      show own_Go p e below T118 (mkF m 135 #[.val (.int c0), .val (.int i0), .val (.int s0), .val (.int t0), .val (.int u0), .val (.int nb), .val (.int cp), .val (.int (1 : Int32)), .val (.int (2 : Int32)), .val (.int (0 : Int32)), .val (.int sv), .val (.int tv), .val (.int uv), .val (.ref b104), .unset] [(.int (1 : Int32))]) _
      refine own_s_goto X118.here hx 139 (hb hby at_135) (by decide) (by decide) ?_
      refine own_s_istore X118.here hx #[.val (.int c0), .val (.int i0), .val (.int s0), .val (.int t0), .val (.int u0), .val (.int nb), .val (.int cp), .val (.int (1 : Int32)), .val (.int (2 : Int32)), .val (.int (0 : Int32)), .val (.int sv), .val (.int tv), .val (.int uv), .val (.ref b104), .val (.int (1 : Int32))] (hb hby at_139) rfl ?_
      refine own_s_iload X118.here hx (hb hby at_141) rfl ?_
      refine own_s_ifNo X118.here hx (hb hby at_143) (Jvm.Free.XT.i0_eq_f ((by decide))) ?_
      refine own_s_aload X118.here hx (hb hby at_146) rfl rfl ?_
      refine own_s_iload X118.here hx (hb hby at_148) rfl ?_
      obtain ⟨cq119, kq119, q119a, q119b, q119c⟩ := isOf hZ e118 f116
      obtain ⟨_, _, ⟨T119, L119, k119, n119⟩, -, X119, ⟨Lc119, hQ119, l119, y119, z119⟩, st119⟩ := X118.virtualBack hx (y := (⟨"com/example/tallymark/tallymark/SlotArray", "get", "(I)I"⟩ : MethodName)) (z := (⟨"com/example/tallymark/tallymark/SlotArray", "get", "(I)I"⟩ : MethodName)) hown (mvT hZ (hw _ (List.mem_of_getElem? (i := 23) rfl))) (mvT hZ (hw _ (List.mem_of_getElem? (i := 24) rfl))) (notFace_of_selects (args := #[]) (mvT hZ (hw _ (List.mem_of_getElem? (i := 26) rfl)))) (mvT hZ (hw _ (List.mem_of_getElem? (i := 26) rfl))) (mvT hZ (hw _ (List.mem_of_getElem? (i := 25) rfl))) (by decide) (backOf (W := 0) (own_getn l Z a0 hw [] b104 (2 : Int32) a107 3 2 (own_upd (own_upd (own_upd (fun _ => (.int (0 : Int32))) 1 (.int (tv + (1 : Int32)))) 2 (.int (uv + (1 : Int32)))) 1 (.int (sv + (1 : Int32)))) (uv + (1 : Int32)) T115.heap n0 SZ115 (by decide) (by decide) rfl f117 fa115) hZ (hw _ (List.mem_of_getElem? (i := 27) rfl)) (hw _ (List.mem_of_getElem? (i := 7) rfl)) (by decide) (by decide)) q119a q119c (g := (mkF m 150 #[.val (.int c0), .val (.int i0), .val (.int s0), .val (.int t0), .val (.int u0), .val (.int nb), .val (.int cp), .val (.int (1 : Int32)), .val (.int (2 : Int32)), .val (.int (0 : Int32)), .val (.int sv), .val (.int tv), .val (.int uv), .val (.ref b104), .val (.int (1 : Int32))] [(.int (2 : Int32)), (.ref b104)])) rfl (by rw [hml]; rfl) (Steps.refl _) (argsL := [(.int (2 : Int32))]) (rest := []) (lenOf own_pd_3 rfl) rfl (by show 2 * 0 + _ ≤ _; exact Nat.le_of_eq rfl) (hb hby at_150) (fun _ _ => ⟨rfl, e118, (by decide : 2 + 0 ≤ _), (by decide : 10 + 0 ≤ _)⟩)
      dsimp only [Pt.U, Pt.locs, Pt.cells, Pt.slots] at X119 l119 y119 z119 st119 hQ119
      subst l119 y119 z119
      obtain ⟨rfl, N119q, e119⟩ := hQ119
      have N119 := Fr.app N118 N119q
      refine own_by (fun t k => st119.trans k) ?_
      show own_Go p e below T119 (mkF m 153 #[.val (.int c0), .val (.int i0), .val (.int s0), .val (.int t0), .val (.int u0), .val (.int nb), .val (.int cp), .val (.int (1 : Int32)), .val (.int (2 : Int32)), .val (.int (0 : Int32)), .val (.int sv), .val (.int tv), .val (.int uv), .val (.ref b104), .val (.int (1 : Int32))] [(.int ((uv + (1 : Int32)) - (1 : Int32)))]) _
      refine own_s_iload X119.here hx (hb hby at_153) rfl ?_
      refine own_s_icmpNo X119.here hx (hb hby at_155) (Jvm.Free.XT.ii_ne_f ((own_as _))) ?_
      refine own_s_iconst X119.here hx (1 : Int32) (hb hby at_158) rfl ?_
      show own_Go p e below T119 (mkF m 159 #[.val (.int c0), .val (.int i0), .val (.int s0), .val (.int t0), .val (.int u0), .val (.int nb), .val (.int cp), .val (.int (1 : Int32)), .val (.int (2 : Int32)), .val (.int (0 : Int32)), .val (.int sv), .val (.int tv), .val (.int uv), .val (.ref b104), .val (.int (1 : Int32))] [(.int (1 : Int32))]) _
      refine own_s_goto X119.here hx 163 (hb hby at_159) (by decide) (by decide) ?_
      refine own_s_istore X119.here hx #[.val (.int c0), .val (.int i0), .val (.int s0), .val (.int t0), .val (.int u0), .val (.int nb), .val (.int cp), .val (.int (1 : Int32)), .val (.int (2 : Int32)), .val (.int (0 : Int32)), .val (.int sv), .val (.int tv), .val (.int uv), .val (.ref b104), .val (.int (1 : Int32))] (hb hby at_163) rfl ?_
      refine own_s_iload X119.here hx (hb hby at_165) rfl ?_
      refine own_s_ifNo X119.here hx (hb hby at_167) (Jvm.Free.XT.i0_eq_f ((by decide))) ?_
      refine own_s_aload X119.here hx (hb hby at_170) rfl rfl ?_
      refine own_s_iload X119.here hx (hb hby at_172) rfl ?_
      obtain ⟨cq120, kq120, q120a, q120b, q120c⟩ := isOf hZ e119 f116
      obtain ⟨_, _, ⟨T120, L120, k120, n120⟩, -, X120, ⟨Lc120, hQ120, l120, y120, z120⟩, st120⟩ := X119.virtualBack hx (y := (⟨"com/example/tallymark/tallymark/SlotArray", "get", "(I)I"⟩ : MethodName)) (z := (⟨"com/example/tallymark/tallymark/SlotArray", "get", "(I)I"⟩ : MethodName)) hown (mvT hZ (hw _ (List.mem_of_getElem? (i := 23) rfl))) (mvT hZ (hw _ (List.mem_of_getElem? (i := 24) rfl))) (notFace_of_selects (args := #[]) (mvT hZ (hw _ (List.mem_of_getElem? (i := 26) rfl)))) (mvT hZ (hw _ (List.mem_of_getElem? (i := 26) rfl))) (mvT hZ (hw _ (List.mem_of_getElem? (i := 25) rfl))) (by decide) (backOf (W := 0) (own_getn l Z a0 hw [] b104 (0 : Int32) a107 3 0 (own_upd (own_upd (own_upd (fun _ => (.int (0 : Int32))) 1 (.int (tv + (1 : Int32)))) 2 (.int (uv + (1 : Int32)))) 1 (.int (sv + (1 : Int32)))) (0 : Int32) T115.heap n0 SZ115 (by decide) (by decide) rfl f117 fa115) hZ (hw _ (List.mem_of_getElem? (i := 27) rfl)) (hw _ (List.mem_of_getElem? (i := 7) rfl)) (by decide) (by decide)) q120a q120c (g := (mkF m 174 #[.val (.int c0), .val (.int i0), .val (.int s0), .val (.int t0), .val (.int u0), .val (.int nb), .val (.int cp), .val (.int (1 : Int32)), .val (.int (2 : Int32)), .val (.int (0 : Int32)), .val (.int sv), .val (.int tv), .val (.int uv), .val (.ref b104), .val (.int (1 : Int32))] [(.int (0 : Int32)), (.ref b104)])) rfl (by rw [hml]; rfl) (Steps.refl _) (argsL := [(.int (0 : Int32))]) (rest := []) (lenOf own_pd_3 rfl) rfl (by show 2 * 0 + _ ≤ _; exact Nat.le_of_eq rfl) (hb hby at_174) (fun _ _ => ⟨rfl, e119, (by decide : 2 + 0 ≤ _), (by decide : 10 + 0 ≤ _)⟩)
      dsimp only [Pt.U, Pt.locs, Pt.cells, Pt.slots] at X120 l120 y120 z120 st120 hQ120
      subst l120 y120 z120
      obtain ⟨rfl, N120q, e120⟩ := hQ120
      have N120 := Fr.app N119 N120q
      refine own_by (fun t k => st120.trans k) ?_
      show own_Go p e below T120 (mkF m 177 #[.val (.int c0), .val (.int i0), .val (.int s0), .val (.int t0), .val (.int u0), .val (.int nb), .val (.int cp), .val (.int (1 : Int32)), .val (.int (2 : Int32)), .val (.int (0 : Int32)), .val (.int sv), .val (.int tv), .val (.int uv), .val (.ref b104), .val (.int (1 : Int32))] [(.int ((0 : Int32) - (1 : Int32)))]) _
      refine own_s_iconst X120.here hx (-1 : Int32) (hb hby at_177) rfl ?_
      refine own_s_icmpNo X120.here hx (hb hby at_178) (Jvm.Free.XT.ii_ne_f ((by decide))) ?_
      refine own_s_iconst X120.here hx (1 : Int32) (hb hby at_181) rfl ?_
      show own_Go p e below T120 (mkF m 182 #[.val (.int c0), .val (.int i0), .val (.int s0), .val (.int t0), .val (.int u0), .val (.int nb), .val (.int cp), .val (.int (1 : Int32)), .val (.int (2 : Int32)), .val (.int (0 : Int32)), .val (.int sv), .val (.int tv), .val (.int uv), .val (.ref b104), .val (.int (1 : Int32))] [(.int (1 : Int32))]) _
      refine own_s_goto X120.here hx 186 (hb hby at_182) (by decide) (by decide) ?_
      refine own_s_istore X120.here hx #[.val (.int c0), .val (.int i0), .val (.int s0), .val (.int t0), .val (.int u0), .val (.int nb), .val (.int cp), .val (.int (1 : Int32)), .val (.int (2 : Int32)), .val (.int (0 : Int32)), .val (.int sv), .val (.int tv), .val (.int uv), .val (.ref b104), .val (.int (1 : Int32))] (hb hby at_186) rfl ?_
      refine own_s_iload X120.here hx (hb hby at_188) rfl ?_
      refine own_s_ifNo X120.here hx (hb hby at_190) (Jvm.Free.XT.i0_eq_f ((by decide))) ?_
      refine own_s_aload X120.here hx (hb hby at_193) rfl rfl ?_
      obtain ⟨cq121, kq121, q121a, q121b, q121c⟩ := isOf hZ e120 f116
      obtain ⟨_, _, ⟨T121, L121, k121, n121⟩, -, X121, ⟨Lc121, hQ121, l121, y121, z121⟩, st121⟩ := X120.virtualBack hx (y := (⟨"com/example/tallymark/tallymark/SlotArray", "length", "()I"⟩ : MethodName)) (z := (⟨"com/example/tallymark/tallymark/SlotArray", "length", "()I"⟩ : MethodName)) hown (mvT hZ (hw _ (List.mem_of_getElem? (i := 28) rfl))) (mvT hZ (hw _ (List.mem_of_getElem? (i := 29) rfl))) (notFace_of_selects (args := #[]) (mvT hZ (hw _ (List.mem_of_getElem? (i := 31) rfl)))) (mvT hZ (hw _ (List.mem_of_getElem? (i := 31) rfl))) (mvT hZ (hw _ (List.mem_of_getElem? (i := 30) rfl))) (by decide) (backOf (W := 0) (own_lenn l Z a0 hw [] b104 a107 3 (own_upd (own_upd (own_upd (fun _ => (.int (0 : Int32))) 1 (.int (tv + (1 : Int32)))) 2 (.int (uv + (1 : Int32)))) 1 (.int (sv + (1 : Int32)))) (3 : Int32) T115.heap n0 SZ115 rfl f117 fa115) hZ (hw _ (List.mem_of_getElem? (i := 32) rfl)) (hw _ (List.mem_of_getElem? (i := 7) rfl)) (by decide) (by decide)) q121a q121c (g := (mkF m 195 #[.val (.int c0), .val (.int i0), .val (.int s0), .val (.int t0), .val (.int u0), .val (.int nb), .val (.int cp), .val (.int (1 : Int32)), .val (.int (2 : Int32)), .val (.int (0 : Int32)), .val (.int sv), .val (.int tv), .val (.int uv), .val (.ref b104), .val (.int (1 : Int32))] [(.ref b104)])) rfl (by rw [hml]; rfl) (Steps.refl _) (argsL := []) (rest := []) (lenOf own_pd_4 rfl) rfl (by show 2 * 0 + _ ≤ _; exact Nat.le_of_eq rfl) (hb hby at_195) (fun _ _ => ⟨rfl, e120, (by decide : 2 + 0 ≤ _), (by decide : 10 + 0 ≤ _)⟩)
      dsimp only [Pt.U, Pt.locs, Pt.cells, Pt.slots] at X121 l121 y121 z121 st121 hQ121
      subst l121 y121 z121
      obtain ⟨rfl, N121q, e121⟩ := hQ121
      have N121 := Fr.app N120 N121q
      refine own_by (fun t k => st121.trans k) ?_
      show own_Go p e below T121 (mkF m 198 #[.val (.int c0), .val (.int i0), .val (.int s0), .val (.int t0), .val (.int u0), .val (.int nb), .val (.int cp), .val (.int (1 : Int32)), .val (.int (2 : Int32)), .val (.int (0 : Int32)), .val (.int sv), .val (.int tv), .val (.int uv), .val (.ref b104), .val (.int (1 : Int32))] [(.int (3 : Int32))]) _
      refine own_s_iconst X121.here hx (3 : Int32) (hb hby at_198) rfl ?_
      refine own_s_icmpNo X121.here hx (hb hby at_199) (Jvm.Free.XT.ii_ne_f ((by decide))) ?_
      refine own_s_iconst X121.here hx (1 : Int32) (hb hby at_202) rfl ?_
      show own_Go p e below T121 (mkF m 203 #[.val (.int c0), .val (.int i0), .val (.int s0), .val (.int t0), .val (.int u0), .val (.int nb), .val (.int cp), .val (.int (1 : Int32)), .val (.int (2 : Int32)), .val (.int (0 : Int32)), .val (.int sv), .val (.int tv), .val (.int uv), .val (.ref b104), .val (.int (1 : Int32))] [(.int (1 : Int32))]) _
      refine own_s_goto X121.here hx 207 (hb hby at_203) (by decide) (by decide) ?_
      refine own_s_istore X121.here hx #[.val (.int c0), .val (.int i0), .val (.int s0), .val (.int t0), .val (.int u0), .val (.int nb), .val (.int cp), .val (.int (1 : Int32)), .val (.int (2 : Int32)), .val (.int (0 : Int32)), .val (.int sv), .val (.int tv), .val (.int uv), .val (.ref b104), .val (.int (1 : Int32))] (hb hby at_207) rfl ?_
      refine own_s_iload X121.here hx (hb hby at_209) rfl ?_
      refine own_retZ X121 hx hret hlk (hb hby at_211) rfl (by decide) (by decide) ?_
      exact ⟨rfl, N121⟩
  ·
    show own_Go p e below T0 (mkF m 42 #[.val (.int c0), .val (.int i0), .val (.int s0), .val (.int t0), .val (.int u0), .val (.int nb), .val (.int cp), .val (.int (2 : Int32)), .unset, .unset, .unset, .unset, .unset, .unset, .unset] []) _
    refine own_s_iload X0.here hx (hb hby at_42) rfl ?_
    refine own_s_iconst X0.here hx (1 : Int32) (hb hby at_44) rfl ?_
    refine own_s_iadd X0.here hx (hb hby at_45) ?_
    refine own_s_iconst X0.here hx (3 : Int32) (hb hby at_46) rfl ?_
    refine own_by (fun tq_ kq_ => iremM X0 hx rfl (hb hby at_47) rfl (by decide) kq_) ?_
    show own_Go p e below T0 (mkF m 48 #[.val (.int c0), .val (.int i0), .val (.int s0), .val (.int t0), .val (.int u0), .val (.int nb), .val (.int cp), .val (.int (2 : Int32)), .unset, .unset, .unset, .unset, .unset, .unset, .unset] [(.int (((2 : Int32) + (1 : Int32)) % (3 : Int32)))]) _
    refine own_s_istore X0.here hx #[.val (.int c0), .val (.int i0), .val (.int s0), .val (.int t0), .val (.int u0), .val (.int nb), .val (.int cp), .val (.int (2 : Int32)), .val (.int (((2 : Int32) + (1 : Int32)) % (3 : Int32))), .unset, .unset, .unset, .unset, .unset, .unset] (hb hby at_48) rfl ?_
    show own_Go p e below T0 (mkF m 50 #[.val (.int c0), .val (.int i0), .val (.int s0), .val (.int t0), .val (.int u0), .val (.int nb), .val (.int cp), .val (.int (2 : Int32)), .val (.int (0 : Int32)), .unset, .unset, .unset, .unset, .unset, .unset] []) _
    refine own_s_iload X0.here hx (hb hby at_50) rfl ?_
    refine own_s_iconst X0.here hx (2 : Int32) (hb hby at_52) rfl ?_
    refine own_s_iadd X0.here hx (hb hby at_53) ?_
    refine own_s_iconst X0.here hx (3 : Int32) (hb hby at_54) rfl ?_
    refine own_by (fun tq_ kq_ => iremM X0 hx rfl (hb hby at_55) rfl (by decide) kq_) ?_
    show own_Go p e below T0 (mkF m 56 #[.val (.int c0), .val (.int i0), .val (.int s0), .val (.int t0), .val (.int u0), .val (.int nb), .val (.int cp), .val (.int (2 : Int32)), .val (.int (0 : Int32)), .unset, .unset, .unset, .unset, .unset, .unset] [(.int (((2 : Int32) + (2 : Int32)) % (3 : Int32)))]) _
    refine own_s_istore X0.here hx #[.val (.int c0), .val (.int i0), .val (.int s0), .val (.int t0), .val (.int u0), .val (.int nb), .val (.int cp), .val (.int (2 : Int32)), .val (.int (0 : Int32)), .val (.int (((2 : Int32) + (2 : Int32)) % (3 : Int32))), .unset, .unset, .unset, .unset, .unset] (hb hby at_56) rfl ?_
    show own_Go p e below T0 (mkF m 58 #[.val (.int c0), .val (.int i0), .val (.int s0), .val (.int t0), .val (.int u0), .val (.int nb), .val (.int cp), .val (.int (2 : Int32)), .val (.int (0 : Int32)), .val (.int (1 : Int32)), .unset, .unset, .unset, .unset, .unset] []) _
    refine own_s_iloadN X0.here hx (hb hby at_58) rfl ?_
    refine own_s_iload X0.here hx (hb hby at_59) rfl ?_
    obtain ⟨_, _, ⟨T122, L122, k122, n122⟩, -, X122, ⟨Lc122, hQ122, l122, y122, z122⟩, st122⟩ := Jvm.LawKit.callS X0 hx (y := (⟨"com/example/tallymark/tallymark/SlotArraySetPinLaw", "slotIn", "(II)I"⟩ : MethodName)) hown (mvT hZ (hw _ (List.mem_of_getElem? (i := 1) rfl))) (mvT hZ (hw _ (List.mem_of_getElem? (i := 2) rfl))) (mvT hZ (hw _ (List.mem_of_getElem? (i := 3) rfl))) (mvT hZ (hw _ (List.mem_of_getElem? (i := 4) rfl))) (by decide) (backOf (W := 0) (own_r1 l Z a0 hw [] s0 cp  h0 n0 Z0 hcb) hZ (hw _ (List.mem_of_getElem? (i := 4) rfl)) (hw _ (List.mem_of_getElem? (i := 3) rfl)) (by decide) (by decide)) (g := (mkF m 61 #[.val (.int c0), .val (.int i0), .val (.int s0), .val (.int t0), .val (.int u0), .val (.int nb), .val (.int cp), .val (.int (2 : Int32)), .val (.int (0 : Int32)), .val (.int (1 : Int32)), .unset, .unset, .unset, .unset, .unset] [(.int cp), (.int s0)])) rfl (by rw [hml]; rfl) (argsL := [(.int s0), (.int cp)]) (rest := []) (lenOf own_pd_0 rfl) rfl (by show 2 * 0 + _ ≤ _; exact Nat.le_of_eq rfl) (hb hby at_61) (fun _ _ => ⟨rfl, e0, (by decide : 0 + 0 ≤ _), (by decide : 0 + 0 ≤ _)⟩)
    dsimp only [Pt.U, Pt.locs, Pt.cells, Pt.slots] at X122 l122 y122 z122 st122 hQ122
    subst l122 y122 z122
    obtain ⟨rfl, N122q, e122⟩ := hQ122
    have N122 := Fr.app N0 N122q
    refine own_by st122 ?_
    show own_Go p e below T122 (mkF m 64 #[.val (.int c0), .val (.int i0), .val (.int s0), .val (.int t0), .val (.int u0), .val (.int nb), .val (.int cp), .val (.int (2 : Int32)), .val (.int (0 : Int32)), .val (.int (1 : Int32)), .unset, .unset, .unset, .unset, .unset] [(.int (own_pick s0 cp))]) _
    refine own_s_istore X122.here hx #[.val (.int c0), .val (.int i0), .val (.int s0), .val (.int t0), .val (.int u0), .val (.int nb), .val (.int cp), .val (.int (2 : Int32)), .val (.int (0 : Int32)), .val (.int (1 : Int32)), .val (.int (own_pick s0 cp)), .unset, .unset, .unset, .unset] (hb hby at_64) rfl ?_
    generalize hsv : (own_pick s0 cp) = sv
    show own_Go p e below T122 (mkF m 66 #[.val (.int c0), .val (.int i0), .val (.int s0), .val (.int t0), .val (.int u0), .val (.int nb), .val (.int cp), .val (.int (2 : Int32)), .val (.int (0 : Int32)), .val (.int (1 : Int32)), .val (.int sv), .unset, .unset, .unset, .unset] []) _
    refine own_s_iloadN X122.here hx (hb hby at_66) rfl ?_
    refine own_s_iload X122.here hx (hb hby at_67) rfl ?_
    obtain ⟨_, _, ⟨T123, L123, k123, n123⟩, -, X123, ⟨Lc123, hQ123, l123, y123, z123⟩, st123⟩ := Jvm.LawKit.callS X122 hx (y := (⟨"com/example/tallymark/tallymark/SlotArraySetPinLaw", "slotIn", "(II)I"⟩ : MethodName)) hown (mvT hZ (hw _ (List.mem_of_getElem? (i := 1) rfl))) (mvT hZ (hw _ (List.mem_of_getElem? (i := 2) rfl))) (mvT hZ (hw _ (List.mem_of_getElem? (i := 3) rfl))) (mvT hZ (hw _ (List.mem_of_getElem? (i := 4) rfl))) (by decide) (backOf (W := 0) (own_r1 l Z a0 hw [] t0 cp  h0 n0 Z0 hcb) hZ (hw _ (List.mem_of_getElem? (i := 4) rfl)) (hw _ (List.mem_of_getElem? (i := 3) rfl)) (by decide) (by decide)) (g := (mkF m 69 #[.val (.int c0), .val (.int i0), .val (.int s0), .val (.int t0), .val (.int u0), .val (.int nb), .val (.int cp), .val (.int (2 : Int32)), .val (.int (0 : Int32)), .val (.int (1 : Int32)), .val (.int sv), .unset, .unset, .unset, .unset] [(.int cp), (.int t0)])) rfl (by rw [hml]; rfl) (argsL := [(.int t0), (.int cp)]) (rest := []) (lenOf own_pd_0 rfl) rfl (by show 2 * 0 + _ ≤ _; exact Nat.le_of_eq rfl) (hb hby at_69) (fun _ _ => ⟨rfl, e122, (by decide : 0 + 0 ≤ _), (by decide : 0 + 0 ≤ _)⟩)
    dsimp only [Pt.U, Pt.locs, Pt.cells, Pt.slots] at X123 l123 y123 z123 st123 hQ123
    subst l123 y123 z123
    obtain ⟨rfl, N123q, e123⟩ := hQ123
    have N123 := Fr.app N122 N123q
    refine own_by st123 ?_
    show own_Go p e below T123 (mkF m 72 #[.val (.int c0), .val (.int i0), .val (.int s0), .val (.int t0), .val (.int u0), .val (.int nb), .val (.int cp), .val (.int (2 : Int32)), .val (.int (0 : Int32)), .val (.int (1 : Int32)), .val (.int sv), .unset, .unset, .unset, .unset] [(.int (own_pick t0 cp))]) _
    refine own_s_istore X123.here hx #[.val (.int c0), .val (.int i0), .val (.int s0), .val (.int t0), .val (.int u0), .val (.int nb), .val (.int cp), .val (.int (2 : Int32)), .val (.int (0 : Int32)), .val (.int (1 : Int32)), .val (.int sv), .val (.int (own_pick t0 cp)), .unset, .unset, .unset] (hb hby at_72) rfl ?_
    generalize htv : (own_pick t0 cp) = tv
    show own_Go p e below T123 (mkF m 74 #[.val (.int c0), .val (.int i0), .val (.int s0), .val (.int t0), .val (.int u0), .val (.int nb), .val (.int cp), .val (.int (2 : Int32)), .val (.int (0 : Int32)), .val (.int (1 : Int32)), .val (.int sv), .val (.int tv), .unset, .unset, .unset] []) _
    refine own_s_iload X123.here hx (hb hby at_74) rfl ?_
    refine own_s_iload X123.here hx (hb hby at_76) rfl ?_
    obtain ⟨_, _, ⟨T124, L124, k124, n124⟩, -, X124, ⟨Lc124, hQ124, l124, y124, z124⟩, st124⟩ := Jvm.LawKit.callS X123 hx (y := (⟨"com/example/tallymark/tallymark/SlotArraySetPinLaw", "slotIn", "(II)I"⟩ : MethodName)) hown (mvT hZ (hw _ (List.mem_of_getElem? (i := 1) rfl))) (mvT hZ (hw _ (List.mem_of_getElem? (i := 2) rfl))) (mvT hZ (hw _ (List.mem_of_getElem? (i := 3) rfl))) (mvT hZ (hw _ (List.mem_of_getElem? (i := 4) rfl))) (by decide) (backOf (W := 0) (own_r1 l Z a0 hw [] u0 cp  h0 n0 Z0 hcb) hZ (hw _ (List.mem_of_getElem? (i := 4) rfl)) (hw _ (List.mem_of_getElem? (i := 3) rfl)) (by decide) (by decide)) (g := (mkF m 78 #[.val (.int c0), .val (.int i0), .val (.int s0), .val (.int t0), .val (.int u0), .val (.int nb), .val (.int cp), .val (.int (2 : Int32)), .val (.int (0 : Int32)), .val (.int (1 : Int32)), .val (.int sv), .val (.int tv), .unset, .unset, .unset] [(.int cp), (.int u0)])) rfl (by rw [hml]; rfl) (argsL := [(.int u0), (.int cp)]) (rest := []) (lenOf own_pd_0 rfl) rfl (by show 2 * 0 + _ ≤ _; exact Nat.le_of_eq rfl) (hb hby at_78) (fun _ _ => ⟨rfl, e123, (by decide : 0 + 0 ≤ _), (by decide : 0 + 0 ≤ _)⟩)
    dsimp only [Pt.U, Pt.locs, Pt.cells, Pt.slots] at X124 l124 y124 z124 st124 hQ124
    subst l124 y124 z124
    obtain ⟨rfl, N124q, e124⟩ := hQ124
    have N124 := Fr.app N123 N124q
    refine own_by st124 ?_
    show own_Go p e below T124 (mkF m 81 #[.val (.int c0), .val (.int i0), .val (.int s0), .val (.int t0), .val (.int u0), .val (.int nb), .val (.int cp), .val (.int (2 : Int32)), .val (.int (0 : Int32)), .val (.int (1 : Int32)), .val (.int sv), .val (.int tv), .unset, .unset, .unset] [(.int (own_pick u0 cp))]) _
    refine own_s_istore X124.here hx #[.val (.int c0), .val (.int i0), .val (.int s0), .val (.int t0), .val (.int u0), .val (.int nb), .val (.int cp), .val (.int (2 : Int32)), .val (.int (0 : Int32)), .val (.int (1 : Int32)), .val (.int sv), .val (.int tv), .val (.int (own_pick u0 cp)), .unset, .unset] (hb hby at_81) rfl ?_
    generalize huv : (own_pick u0 cp) = uv
    show own_Go p e below T124 (mkF m 83 #[.val (.int c0), .val (.int i0), .val (.int s0), .val (.int t0), .val (.int u0), .val (.int nb), .val (.int cp), .val (.int (2 : Int32)), .val (.int (0 : Int32)), .val (.int (1 : Int32)), .val (.int sv), .val (.int tv), .val (.int uv), .unset, .unset] []) _
    by_cases hm : (65535 : Int32) < cp
    ·
      obtain ⟨T125, h125, X125, e125, E125, A125, D125, -, st125⟩ := newO X124 hx hZ hown (hw _ (List.mem_of_getElem? (i := 5) rfl)) (hw _ (List.mem_of_getElem? (i := 6) rfl)) (hw _ (List.mem_of_getElem? (i := 7) rfl)) e124 (g := (mkF m 83 #[.val (.int c0), .val (.int i0), .val (.int s0), .val (.int t0), .val (.int u0), .val (.int nb), .val (.int cp), .val (.int (2 : Int32)), .val (.int (0 : Int32)), .val (.int (1 : Int32)), .val (.int sv), .val (.int tv), .val (.int uv), .unset, .unset] [])) rfl (hb hby at_83) (by decide) (by decide)
      obtain ⟨b125, g125⟩ : ∃ z, z = h0.size := ⟨_, rfl⟩
      rw [← g125] at A125 D125 st125
      have ge_b125 : n0 ≤ b125 := Nat.le_trans Z0 (Nat.le_of_eq g125.symm)
      have SZ125 : n0 ≤ h125.size := Nat.le_trans Z0 E125.1
      have f126 : Fld Z h125 b125 "com/example/tallymark/tallymark/SlotArray" "narrow" "[C" .null := D125 (Or.inl (hw _ (List.mem_of_getElem? (i := 17) rfl))) (ty := (.array .char)) (by decide)
      have f127 : Fld Z h125 b125 "com/example/tallymark/tallymark/SlotArray" "wide" "[I" .null := D125 (Or.inl (hw _ (List.mem_of_getElem? (i := 35) rfl))) (ty := (.array .int)) (by decide)
      refine own_by st125 ?_
      show own_Go p e below T125 (mkF m 86 #[.val (.int c0), .val (.int i0), .val (.int s0), .val (.int t0), .val (.int u0), .val (.int nb), .val (.int cp), .val (.int (2 : Int32)), .val (.int (0 : Int32)), .val (.int (1 : Int32)), .val (.int sv), .val (.int tv), .val (.int uv), .unset, .unset] [(.ref b125)]) _
      refine own_s_dup X125.here hx (hb hby at_86) rfl ?_
      refine own_s_iload X125.here hx (hb hby at_87) rfl ?_
      refine own_s_iconst X125.here hx (3 : Int32) (hb hby at_89) rfl ?_
      obtain ⟨_, _, ⟨T128, L128, k128, n128⟩, -, X128, ⟨Lc128, hQ128, l128, y128, z128⟩, st128⟩ := X125.specialBack hx (y := (⟨"com/example/tallymark/tallymark/SlotArray", "<init>", "(II)V"⟩ : MethodName)) rfl hown (mvT hZ (hw _ (List.mem_of_getElem? (i := 8) rfl))) (mvT hZ (hw _ (List.mem_of_getElem? (i := 9) rfl))) (mvT hZ (hw _ (List.mem_of_getElem? (i := 10) rfl))) (by decide) (backOf (W := 1) (own_iniw l Z a0 hw [] b125 cp (3 : Int32) 3 h125 n0 SZ125 hm rfl (by decide) (by decide) A125 f126 f127 ge_b125) hZ (hw _ (List.mem_of_getElem? (i := 10) rfl)) (hw _ (List.mem_of_getElem? (i := 7) rfl)) (by decide) (by decide)) (g := (mkF m 90 #[.val (.int c0), .val (.int i0), .val (.int s0), .val (.int t0), .val (.int u0), .val (.int nb), .val (.int cp), .val (.int (2 : Int32)), .val (.int (0 : Int32)), .val (.int (1 : Int32)), .val (.int sv), .val (.int tv), .val (.int uv), .unset, .unset] [(.int (3 : Int32)), (.int cp), (.ref b125), (.ref b125)])) rfl (by rw [hml]; rfl) (Steps.refl _) (a := b125) (argsL := [(.int cp), (.int (3 : Int32))]) (rest := [(.ref b125)]) (lenOf own_pd_1 rfl) rfl (by show 2 * 0 + _ ≤ _; exact Nat.le_of_eq rfl) (hb hby at_90) (fun _ _ => ⟨rfl, e125, (by decide : 1 + 1 ≤ _), (by decide : 2 + 8 ≤ _)⟩)
      dsimp only [Pt.U, Pt.locs, Pt.cells, Pt.slots] at X128 l128 y128 z128 st128 hQ128
      subst l128 y128 z128
      obtain ⟨rfl, N128q, K128, a128, ga128, na128, fn128, fa128, fz128⟩ := hQ128
      have N128 := Fr.app N124 N128q
      have f129 := A125.keep K128
      have SZ128 : n0 ≤ T128.heap.size := Nat.le_trans SZ125 K128.1
      refine own_by (fun t k => st128.trans k) ?_
      show own_Go p e below T128 (mkF m 93 #[.val (.int c0), .val (.int i0), .val (.int s0), .val (.int t0), .val (.int u0), .val (.int nb), .val (.int cp), .val (.int (2 : Int32)), .val (.int (0 : Int32)), .val (.int (1 : Int32)), .val (.int sv), .val (.int tv), .val (.int uv), .unset, .unset] [(.ref b125)]) _
      refine own_s_astore X128.here hx #[.val (.int c0), .val (.int i0), .val (.int s0), .val (.int t0), .val (.int u0), .val (.int nb), .val (.int cp), .val (.int (2 : Int32)), .val (.int (0 : Int32)), .val (.int (1 : Int32)), .val (.int sv), .val (.int tv), .val (.int uv), .val (.ref b125), .unset] (hb hby at_93) rfl rfl ?_
      refine own_s_aload X128.here hx (hb hby at_95) rfl rfl ?_
      refine own_s_iload X128.here hx (hb hby at_97) rfl ?_
      refine own_s_iload X128.here hx (hb hby at_99) rfl ?_
      obtain ⟨cq130, kq130, q130a, q130b, q130c⟩ := isOf hZ rfl f129
      obtain ⟨_, _, ⟨T130, L130, k130, n130⟩, -, X130, ⟨Lc130, hQ130, l130, y130, z130⟩, st130⟩ := X128.virtualBack hx (y := (⟨"com/example/tallymark/tallymark/SlotArray", "set", "(II)V"⟩ : MethodName)) (z := (⟨"com/example/tallymark/tallymark/SlotArray", "set", "(II)V"⟩ : MethodName)) hown (mvT hZ (hw _ (List.mem_of_getElem? (i := 18) rfl))) (mvT hZ (hw _ (List.mem_of_getElem? (i := 19) rfl))) (notFace_of_selects (args := #[]) (mvT hZ (hw _ (List.mem_of_getElem? (i := 21) rfl)))) (mvT hZ (hw _ (List.mem_of_getElem? (i := 21) rfl))) (mvT hZ (hw _ (List.mem_of_getElem? (i := 20) rfl))) (by decide) (backOf (W := 0) (own_setw l Z a0 hw [] b125 (2 : Int32) tv a128 3 2 (fun _ => (.int (0 : Int32))) T128.heap n0 SZ128 (by decide) (by decide) fn128 fz128 fa128 ga128 na128) hZ (hw _ (List.mem_of_getElem? (i := 22) rfl)) (hw _ (List.mem_of_getElem? (i := 7) rfl)) (by decide) (by decide)) q130a q130c (g := (mkF m 101 #[.val (.int c0), .val (.int i0), .val (.int s0), .val (.int t0), .val (.int u0), .val (.int nb), .val (.int cp), .val (.int (2 : Int32)), .val (.int (0 : Int32)), .val (.int (1 : Int32)), .val (.int sv), .val (.int tv), .val (.int uv), .val (.ref b125), .unset] [(.int tv), (.int (2 : Int32)), (.ref b125)])) rfl (by rw [hml]; rfl) (Steps.refl _) (argsL := [(.int (2 : Int32)), (.int tv)]) (rest := []) (lenOf own_pd_1 rfl) rfl (by show 2 * 0 + _ ≤ _; exact Nat.le_of_eq rfl) (hb hby at_101) (fun _ _ => ⟨rfl, rfl, (by decide : 2 + 0 ≤ _), (by decide : 10 + 0 ≤ _)⟩)
      dsimp only [Pt.U, Pt.locs, Pt.cells, Pt.slots] at X130 l130 y130 z130 st130 hQ130
      subst l130 y130 z130
      obtain ⟨rfl, N130q, K130, fa130⟩ := hQ130
      have N130 := Fr.app N128 N130q
      have f131 := f129.keep K130
      have f132 := fn128.keep K130 (ninS na128 nin0)
      have f133 := fz128.keep K130 (ninS na128 nin0)
      have SZ130 : n0 ≤ T130.heap.size := Nat.le_trans SZ128 K130.1
      refine own_by (fun t k => st130.trans k) ?_
      show own_Go p e below T130 (mkF m 104 #[.val (.int c0), .val (.int i0), .val (.int s0), .val (.int t0), .val (.int u0), .val (.int nb), .val (.int cp), .val (.int (2 : Int32)), .val (.int (0 : Int32)), .val (.int (1 : Int32)), .val (.int sv), .val (.int tv), .val (.int uv), .val (.ref b125), .unset] []) _
      refine own_s_aload X130.here hx (hb hby at_104) rfl rfl ?_
      refine own_s_iload X130.here hx (hb hby at_106) rfl ?_
      refine own_s_iload X130.here hx (hb hby at_108) rfl ?_
      obtain ⟨cq134, kq134, q134a, q134b, q134c⟩ := isOf hZ rfl f131
      obtain ⟨_, _, ⟨T134, L134, k134, n134⟩, -, X134, ⟨Lc134, hQ134, l134, y134, z134⟩, st134⟩ := X130.virtualBack hx (y := (⟨"com/example/tallymark/tallymark/SlotArray", "set", "(II)V"⟩ : MethodName)) (z := (⟨"com/example/tallymark/tallymark/SlotArray", "set", "(II)V"⟩ : MethodName)) hown (mvT hZ (hw _ (List.mem_of_getElem? (i := 18) rfl))) (mvT hZ (hw _ (List.mem_of_getElem? (i := 19) rfl))) (notFace_of_selects (args := #[]) (mvT hZ (hw _ (List.mem_of_getElem? (i := 21) rfl)))) (mvT hZ (hw _ (List.mem_of_getElem? (i := 21) rfl))) (mvT hZ (hw _ (List.mem_of_getElem? (i := 20) rfl))) (by decide) (backOf (W := 0) (own_setw l Z a0 hw [] b125 (0 : Int32) uv a128 3 0 (own_upd (fun _ => (.int (0 : Int32))) 2 (.int (tv + (1 : Int32)))) T130.heap n0 SZ130 (by decide) (by decide) f132 f133 fa130 ga128 na128) hZ (hw _ (List.mem_of_getElem? (i := 22) rfl)) (hw _ (List.mem_of_getElem? (i := 7) rfl)) (by decide) (by decide)) q134a q134c (g := (mkF m 110 #[.val (.int c0), .val (.int i0), .val (.int s0), .val (.int t0), .val (.int u0), .val (.int nb), .val (.int cp), .val (.int (2 : Int32)), .val (.int (0 : Int32)), .val (.int (1 : Int32)), .val (.int sv), .val (.int tv), .val (.int uv), .val (.ref b125), .unset] [(.int uv), (.int (0 : Int32)), (.ref b125)])) rfl (by rw [hml]; rfl) (Steps.refl _) (argsL := [(.int (0 : Int32)), (.int uv)]) (rest := []) (lenOf own_pd_1 rfl) rfl (by show 2 * 0 + _ ≤ _; exact Nat.le_of_eq rfl) (hb hby at_110) (fun _ _ => ⟨rfl, rfl, (by decide : 2 + 0 ≤ _), (by decide : 10 + 0 ≤ _)⟩)
      dsimp only [Pt.U, Pt.locs, Pt.cells, Pt.slots] at X134 l134 y134 z134 st134 hQ134
      subst l134 y134 z134
      obtain ⟨rfl, N134q, K134, fa134⟩ := hQ134
      have N134 := Fr.app N130 N134q
      have f135 := f131.keep K134
      have f136 := f132.keep K134 (ninS na128 nin0)
      have f137 := f133.keep K134 (ninS na128 nin0)
      have SZ134 : n0 ≤ T134.heap.size := Nat.le_trans SZ130 K134.1
      refine own_by (fun t k => st134.trans k) ?_
      show own_Go p e below T134 (mkF m 113 #[.val (.int c0), .val (.int i0), .val (.int s0), .val (.int t0), .val (.int u0), .val (.int nb), .val (.int cp), .val (.int (2 : Int32)), .val (.int (0 : Int32)), .val (.int (1 : Int32)), .val (.int sv), .val (.int tv), .val (.int uv), .val (.ref b125), .unset] []) _
      refine own_s_aload X134.here hx (hb hby at_113) rfl rfl ?_
      refine own_s_iload X134.here hx (hb hby at_115) rfl ?_
      refine own_s_iload X134.here hx (hb hby at_117) rfl ?_
      obtain ⟨cq138, kq138, q138a, q138b, q138c⟩ := isOf hZ rfl f135
      obtain ⟨_, _, ⟨T138, L138, k138, n138⟩, -, X138, ⟨Lc138, hQ138, l138, y138, z138⟩, st138⟩ := X134.virtualBack hx (y := (⟨"com/example/tallymark/tallymark/SlotArray", "set", "(II)V"⟩ : MethodName)) (z := (⟨"com/example/tallymark/tallymark/SlotArray", "set", "(II)V"⟩ : MethodName)) hown (mvT hZ (hw _ (List.mem_of_getElem? (i := 18) rfl))) (mvT hZ (hw _ (List.mem_of_getElem? (i := 19) rfl))) (notFace_of_selects (args := #[]) (mvT hZ (hw _ (List.mem_of_getElem? (i := 21) rfl)))) (mvT hZ (hw _ (List.mem_of_getElem? (i := 21) rfl))) (mvT hZ (hw _ (List.mem_of_getElem? (i := 20) rfl))) (by decide) (backOf (W := 0) (own_setw l Z a0 hw [] b125 (2 : Int32) sv a128 3 2 (own_upd (own_upd (fun _ => (.int (0 : Int32))) 2 (.int (tv + (1 : Int32)))) 0 (.int (uv + (1 : Int32)))) T134.heap n0 SZ134 (by decide) (by decide) f136 f137 fa134 ga128 na128) hZ (hw _ (List.mem_of_getElem? (i := 22) rfl)) (hw _ (List.mem_of_getElem? (i := 7) rfl)) (by decide) (by decide)) q138a q138c (g := (mkF m 119 #[.val (.int c0), .val (.int i0), .val (.int s0), .val (.int t0), .val (.int u0), .val (.int nb), .val (.int cp), .val (.int (2 : Int32)), .val (.int (0 : Int32)), .val (.int (1 : Int32)), .val (.int sv), .val (.int tv), .val (.int uv), .val (.ref b125), .unset] [(.int sv), (.int (2 : Int32)), (.ref b125)])) rfl (by rw [hml]; rfl) (Steps.refl _) (argsL := [(.int (2 : Int32)), (.int sv)]) (rest := []) (lenOf own_pd_1 rfl) rfl (by show 2 * 0 + _ ≤ _; exact Nat.le_of_eq rfl) (hb hby at_119) (fun _ _ => ⟨rfl, rfl, (by decide : 2 + 0 ≤ _), (by decide : 10 + 0 ≤ _)⟩)
      dsimp only [Pt.U, Pt.locs, Pt.cells, Pt.slots] at X138 l138 y138 z138 st138 hQ138
      subst l138 y138 z138
      obtain ⟨rfl, N138q, K138, fa138⟩ := hQ138
      have N138 := Fr.app N134 N138q
      have f139 := f135.keep K138
      have f140 := f136.keep K138 (ninS na128 nin0)
      have f141 := f137.keep K138 (ninS na128 nin0)
      have SZ138 : n0 ≤ T138.heap.size := Nat.le_trans SZ134 K138.1
      refine own_by (fun t k => st138.trans k) ?_
      show own_Go p e below T138 (mkF m 122 #[.val (.int c0), .val (.int i0), .val (.int s0), .val (.int t0), .val (.int u0), .val (.int nb), .val (.int cp), .val (.int (2 : Int32)), .val (.int (0 : Int32)), .val (.int (1 : Int32)), .val (.int sv), .val (.int tv), .val (.int uv), .val (.ref b125), .unset] []) _
      refine own_s_aload X138.here hx (hb hby at_122) rfl rfl ?_
      refine own_s_iload X138.here hx (hb hby at_124) rfl ?_
      obtain ⟨cq142, kq142, q142a, q142b, q142c⟩ := isOf hZ rfl f139
      obtain ⟨_, _, ⟨T142, L142, k142, n142⟩, -, X142, ⟨Lc142, hQ142, l142, y142, z142⟩, st142⟩ := X138.virtualBack hx (y := (⟨"com/example/tallymark/tallymark/SlotArray", "get", "(I)I"⟩ : MethodName)) (z := (⟨"com/example/tallymark/tallymark/SlotArray", "get", "(I)I"⟩ : MethodName)) hown (mvT hZ (hw _ (List.mem_of_getElem? (i := 23) rfl))) (mvT hZ (hw _ (List.mem_of_getElem? (i := 24) rfl))) (notFace_of_selects (args := #[]) (mvT hZ (hw _ (List.mem_of_getElem? (i := 26) rfl)))) (mvT hZ (hw _ (List.mem_of_getElem? (i := 26) rfl))) (mvT hZ (hw _ (List.mem_of_getElem? (i := 25) rfl))) (by decide) (backOf (W := 0) (own_getw l Z a0 hw [] b125 (2 : Int32) a128 3 2 (own_upd (own_upd (own_upd (fun _ => (.int (0 : Int32))) 2 (.int (tv + (1 : Int32)))) 0 (.int (uv + (1 : Int32)))) 2 (.int (sv + (1 : Int32)))) (sv + (1 : Int32)) T138.heap n0 SZ138 (by decide) (by decide) rfl f140 f141 fa138) hZ (hw _ (List.mem_of_getElem? (i := 27) rfl)) (hw _ (List.mem_of_getElem? (i := 7) rfl)) (by decide) (by decide)) q142a q142c (g := (mkF m 126 #[.val (.int c0), .val (.int i0), .val (.int s0), .val (.int t0), .val (.int u0), .val (.int nb), .val (.int cp), .val (.int (2 : Int32)), .val (.int (0 : Int32)), .val (.int (1 : Int32)), .val (.int sv), .val (.int tv), .val (.int uv), .val (.ref b125), .unset] [(.int (2 : Int32)), (.ref b125)])) rfl (by rw [hml]; rfl) (Steps.refl _) (argsL := [(.int (2 : Int32))]) (rest := []) (lenOf own_pd_3 rfl) rfl (by show 2 * 0 + _ ≤ _; exact Nat.le_of_eq rfl) (hb hby at_126) (fun _ _ => ⟨rfl, rfl, (by decide : 2 + 0 ≤ _), (by decide : 10 + 0 ≤ _)⟩)
      dsimp only [Pt.U, Pt.locs, Pt.cells, Pt.slots] at X142 l142 y142 z142 st142 hQ142
      subst l142 y142 z142
      obtain ⟨rfl, N142q, e142⟩ := hQ142
      have N142 := Fr.app N138 N142q
      refine own_by (fun t k => st142.trans k) ?_
      show own_Go p e below T142 (mkF m 129 #[.val (.int c0), .val (.int i0), .val (.int s0), .val (.int t0), .val (.int u0), .val (.int nb), .val (.int cp), .val (.int (2 : Int32)), .val (.int (0 : Int32)), .val (.int (1 : Int32)), .val (.int sv), .val (.int tv), .val (.int uv), .val (.ref b125), .unset] [(.int ((sv + (1 : Int32)) - (1 : Int32)))]) _
      refine own_s_iload X142.here hx (hb hby at_129) rfl ?_
      refine own_s_icmpNo X142.here hx (hb hby at_131) (Jvm.Free.XT.ii_ne_f ((own_as _))) ?_
      refine own_s_iconst X142.here hx (1 : Int32) (hb hby at_134) rfl ?_
      show own_Go p e below T142 (mkF m 135 #[.val (.int c0), .val (.int i0), .val (.int s0), .val (.int t0), .val (.int u0), .val (.int nb), .val (.int cp), .val (.int (2 : Int32)), .val (.int (0 : Int32)), .val (.int (1 : Int32)), .val (.int sv), .val (.int tv), .val (.int uv), .val (.ref b125), .unset] [(.int (1 : Int32))]) _
      refine own_s_goto X142.here hx 139 (hb hby at_135) (by decide) (by decide) ?_
      refine own_s_istore X142.here hx #[.val (.int c0), .val (.int i0), .val (.int s0), .val (.int t0), .val (.int u0), .val (.int nb), .val (.int cp), .val (.int (2 : Int32)), .val (.int (0 : Int32)), .val (.int (1 : Int32)), .val (.int sv), .val (.int tv), .val (.int uv), .val (.ref b125), .val (.int (1 : Int32))] (hb hby at_139) rfl ?_
      refine own_s_iload X142.here hx (hb hby at_141) rfl ?_
      refine own_s_ifNo X142.here hx (hb hby at_143) (Jvm.Free.XT.i0_eq_f ((by decide))) ?_
      refine own_s_aload X142.here hx (hb hby at_146) rfl rfl ?_
      refine own_s_iload X142.here hx (hb hby at_148) rfl ?_
      obtain ⟨cq143, kq143, q143a, q143b, q143c⟩ := isOf hZ e142 f139
      obtain ⟨_, _, ⟨T143, L143, k143, n143⟩, -, X143, ⟨Lc143, hQ143, l143, y143, z143⟩, st143⟩ := X142.virtualBack hx (y := (⟨"com/example/tallymark/tallymark/SlotArray", "get", "(I)I"⟩ : MethodName)) (z := (⟨"com/example/tallymark/tallymark/SlotArray", "get", "(I)I"⟩ : MethodName)) hown (mvT hZ (hw _ (List.mem_of_getElem? (i := 23) rfl))) (mvT hZ (hw _ (List.mem_of_getElem? (i := 24) rfl))) (notFace_of_selects (args := #[]) (mvT hZ (hw _ (List.mem_of_getElem? (i := 26) rfl)))) (mvT hZ (hw _ (List.mem_of_getElem? (i := 26) rfl))) (mvT hZ (hw _ (List.mem_of_getElem? (i := 25) rfl))) (by decide) (backOf (W := 0) (own_getw l Z a0 hw [] b125 (0 : Int32) a128 3 0 (own_upd (own_upd (own_upd (fun _ => (.int (0 : Int32))) 2 (.int (tv + (1 : Int32)))) 0 (.int (uv + (1 : Int32)))) 2 (.int (sv + (1 : Int32)))) (uv + (1 : Int32)) T138.heap n0 SZ138 (by decide) (by decide) rfl f140 f141 fa138) hZ (hw _ (List.mem_of_getElem? (i := 27) rfl)) (hw _ (List.mem_of_getElem? (i := 7) rfl)) (by decide) (by decide)) q143a q143c (g := (mkF m 150 #[.val (.int c0), .val (.int i0), .val (.int s0), .val (.int t0), .val (.int u0), .val (.int nb), .val (.int cp), .val (.int (2 : Int32)), .val (.int (0 : Int32)), .val (.int (1 : Int32)), .val (.int sv), .val (.int tv), .val (.int uv), .val (.ref b125), .val (.int (1 : Int32))] [(.int (0 : Int32)), (.ref b125)])) rfl (by rw [hml]; rfl) (Steps.refl _) (argsL := [(.int (0 : Int32))]) (rest := []) (lenOf own_pd_3 rfl) rfl (by show 2 * 0 + _ ≤ _; exact Nat.le_of_eq rfl) (hb hby at_150) (fun _ _ => ⟨rfl, e142, (by decide : 2 + 0 ≤ _), (by decide : 10 + 0 ≤ _)⟩)
      dsimp only [Pt.U, Pt.locs, Pt.cells, Pt.slots] at X143 l143 y143 z143 st143 hQ143
      subst l143 y143 z143
      obtain ⟨rfl, N143q, e143⟩ := hQ143
      have N143 := Fr.app N142 N143q
      refine own_by (fun t k => st143.trans k) ?_
      show own_Go p e below T143 (mkF m 153 #[.val (.int c0), .val (.int i0), .val (.int s0), .val (.int t0), .val (.int u0), .val (.int nb), .val (.int cp), .val (.int (2 : Int32)), .val (.int (0 : Int32)), .val (.int (1 : Int32)), .val (.int sv), .val (.int tv), .val (.int uv), .val (.ref b125), .val (.int (1 : Int32))] [(.int ((uv + (1 : Int32)) - (1 : Int32)))]) _
      refine own_s_iload X143.here hx (hb hby at_153) rfl ?_
      refine own_s_icmpNo X143.here hx (hb hby at_155) (Jvm.Free.XT.ii_ne_f ((own_as _))) ?_
      refine own_s_iconst X143.here hx (1 : Int32) (hb hby at_158) rfl ?_
      show own_Go p e below T143 (mkF m 159 #[.val (.int c0), .val (.int i0), .val (.int s0), .val (.int t0), .val (.int u0), .val (.int nb), .val (.int cp), .val (.int (2 : Int32)), .val (.int (0 : Int32)), .val (.int (1 : Int32)), .val (.int sv), .val (.int tv), .val (.int uv), .val (.ref b125), .val (.int (1 : Int32))] [(.int (1 : Int32))]) _
      refine own_s_goto X143.here hx 163 (hb hby at_159) (by decide) (by decide) ?_
      refine own_s_istore X143.here hx #[.val (.int c0), .val (.int i0), .val (.int s0), .val (.int t0), .val (.int u0), .val (.int nb), .val (.int cp), .val (.int (2 : Int32)), .val (.int (0 : Int32)), .val (.int (1 : Int32)), .val (.int sv), .val (.int tv), .val (.int uv), .val (.ref b125), .val (.int (1 : Int32))] (hb hby at_163) rfl ?_
      refine own_s_iload X143.here hx (hb hby at_165) rfl ?_
      refine own_s_ifNo X143.here hx (hb hby at_167) (Jvm.Free.XT.i0_eq_f ((by decide))) ?_
      refine own_s_aload X143.here hx (hb hby at_170) rfl rfl ?_
      refine own_s_iload X143.here hx (hb hby at_172) rfl ?_
      obtain ⟨cq144, kq144, q144a, q144b, q144c⟩ := isOf hZ e143 f139
      obtain ⟨_, _, ⟨T144, L144, k144, n144⟩, -, X144, ⟨Lc144, hQ144, l144, y144, z144⟩, st144⟩ := X143.virtualBack hx (y := (⟨"com/example/tallymark/tallymark/SlotArray", "get", "(I)I"⟩ : MethodName)) (z := (⟨"com/example/tallymark/tallymark/SlotArray", "get", "(I)I"⟩ : MethodName)) hown (mvT hZ (hw _ (List.mem_of_getElem? (i := 23) rfl))) (mvT hZ (hw _ (List.mem_of_getElem? (i := 24) rfl))) (notFace_of_selects (args := #[]) (mvT hZ (hw _ (List.mem_of_getElem? (i := 26) rfl)))) (mvT hZ (hw _ (List.mem_of_getElem? (i := 26) rfl))) (mvT hZ (hw _ (List.mem_of_getElem? (i := 25) rfl))) (by decide) (backOf (W := 0) (own_getw l Z a0 hw [] b125 (1 : Int32) a128 3 1 (own_upd (own_upd (own_upd (fun _ => (.int (0 : Int32))) 2 (.int (tv + (1 : Int32)))) 0 (.int (uv + (1 : Int32)))) 2 (.int (sv + (1 : Int32)))) (0 : Int32) T138.heap n0 SZ138 (by decide) (by decide) rfl f140 f141 fa138) hZ (hw _ (List.mem_of_getElem? (i := 27) rfl)) (hw _ (List.mem_of_getElem? (i := 7) rfl)) (by decide) (by decide)) q144a q144c (g := (mkF m 174 #[.val (.int c0), .val (.int i0), .val (.int s0), .val (.int t0), .val (.int u0), .val (.int nb), .val (.int cp), .val (.int (2 : Int32)), .val (.int (0 : Int32)), .val (.int (1 : Int32)), .val (.int sv), .val (.int tv), .val (.int uv), .val (.ref b125), .val (.int (1 : Int32))] [(.int (1 : Int32)), (.ref b125)])) rfl (by rw [hml]; rfl) (Steps.refl _) (argsL := [(.int (1 : Int32))]) (rest := []) (lenOf own_pd_3 rfl) rfl (by show 2 * 0 + _ ≤ _; exact Nat.le_of_eq rfl) (hb hby at_174) (fun _ _ => ⟨rfl, e143, (by decide : 2 + 0 ≤ _), (by decide : 10 + 0 ≤ _)⟩)
      dsimp only [Pt.U, Pt.locs, Pt.cells, Pt.slots] at X144 l144 y144 z144 st144 hQ144
      subst l144 y144 z144
      obtain ⟨rfl, N144q, e144⟩ := hQ144
      have N144 := Fr.app N143 N144q
      refine own_by (fun t k => st144.trans k) ?_
      show own_Go p e below T144 (mkF m 177 #[.val (.int c0), .val (.int i0), .val (.int s0), .val (.int t0), .val (.int u0), .val (.int nb), .val (.int cp), .val (.int (2 : Int32)), .val (.int (0 : Int32)), .val (.int (1 : Int32)), .val (.int sv), .val (.int tv), .val (.int uv), .val (.ref b125), .val (.int (1 : Int32))] [(.int ((0 : Int32) - (1 : Int32)))]) _
      refine own_s_iconst X144.here hx (-1 : Int32) (hb hby at_177) rfl ?_
      refine own_s_icmpNo X144.here hx (hb hby at_178) (Jvm.Free.XT.ii_ne_f ((by decide))) ?_
      refine own_s_iconst X144.here hx (1 : Int32) (hb hby at_181) rfl ?_
      show own_Go p e below T144 (mkF m 182 #[.val (.int c0), .val (.int i0), .val (.int s0), .val (.int t0), .val (.int u0), .val (.int nb), .val (.int cp), .val (.int (2 : Int32)), .val (.int (0 : Int32)), .val (.int (1 : Int32)), .val (.int sv), .val (.int tv), .val (.int uv), .val (.ref b125), .val (.int (1 : Int32))] [(.int (1 : Int32))]) _
      refine own_s_goto X144.here hx 186 (hb hby at_182) (by decide) (by decide) ?_
      refine own_s_istore X144.here hx #[.val (.int c0), .val (.int i0), .val (.int s0), .val (.int t0), .val (.int u0), .val (.int nb), .val (.int cp), .val (.int (2 : Int32)), .val (.int (0 : Int32)), .val (.int (1 : Int32)), .val (.int sv), .val (.int tv), .val (.int uv), .val (.ref b125), .val (.int (1 : Int32))] (hb hby at_186) rfl ?_
      refine own_s_iload X144.here hx (hb hby at_188) rfl ?_
      refine own_s_ifNo X144.here hx (hb hby at_190) (Jvm.Free.XT.i0_eq_f ((by decide))) ?_
      refine own_s_aload X144.here hx (hb hby at_193) rfl rfl ?_
      obtain ⟨cq145, kq145, q145a, q145b, q145c⟩ := isOf hZ e144 f139
      obtain ⟨_, _, ⟨T145, L145, k145, n145⟩, -, X145, ⟨Lc145, hQ145, l145, y145, z145⟩, st145⟩ := X144.virtualBack hx (y := (⟨"com/example/tallymark/tallymark/SlotArray", "length", "()I"⟩ : MethodName)) (z := (⟨"com/example/tallymark/tallymark/SlotArray", "length", "()I"⟩ : MethodName)) hown (mvT hZ (hw _ (List.mem_of_getElem? (i := 28) rfl))) (mvT hZ (hw _ (List.mem_of_getElem? (i := 29) rfl))) (notFace_of_selects (args := #[]) (mvT hZ (hw _ (List.mem_of_getElem? (i := 31) rfl)))) (mvT hZ (hw _ (List.mem_of_getElem? (i := 31) rfl))) (mvT hZ (hw _ (List.mem_of_getElem? (i := 30) rfl))) (by decide) (backOf (W := 0) (own_lenw l Z a0 hw [] b125 a128 3 (own_upd (own_upd (own_upd (fun _ => (.int (0 : Int32))) 2 (.int (tv + (1 : Int32)))) 0 (.int (uv + (1 : Int32)))) 2 (.int (sv + (1 : Int32)))) (3 : Int32) T138.heap n0 SZ138 rfl f140 f141 fa138) hZ (hw _ (List.mem_of_getElem? (i := 32) rfl)) (hw _ (List.mem_of_getElem? (i := 7) rfl)) (by decide) (by decide)) q145a q145c (g := (mkF m 195 #[.val (.int c0), .val (.int i0), .val (.int s0), .val (.int t0), .val (.int u0), .val (.int nb), .val (.int cp), .val (.int (2 : Int32)), .val (.int (0 : Int32)), .val (.int (1 : Int32)), .val (.int sv), .val (.int tv), .val (.int uv), .val (.ref b125), .val (.int (1 : Int32))] [(.ref b125)])) rfl (by rw [hml]; rfl) (Steps.refl _) (argsL := []) (rest := []) (lenOf own_pd_4 rfl) rfl (by show 2 * 0 + _ ≤ _; exact Nat.le_of_eq rfl) (hb hby at_195) (fun _ _ => ⟨rfl, e144, (by decide : 2 + 0 ≤ _), (by decide : 10 + 0 ≤ _)⟩)
      dsimp only [Pt.U, Pt.locs, Pt.cells, Pt.slots] at X145 l145 y145 z145 st145 hQ145
      subst l145 y145 z145
      obtain ⟨rfl, N145q, e145⟩ := hQ145
      have N145 := Fr.app N144 N145q
      refine own_by (fun t k => st145.trans k) ?_
      show own_Go p e below T145 (mkF m 198 #[.val (.int c0), .val (.int i0), .val (.int s0), .val (.int t0), .val (.int u0), .val (.int nb), .val (.int cp), .val (.int (2 : Int32)), .val (.int (0 : Int32)), .val (.int (1 : Int32)), .val (.int sv), .val (.int tv), .val (.int uv), .val (.ref b125), .val (.int (1 : Int32))] [(.int (3 : Int32))]) _
      refine own_s_iconst X145.here hx (3 : Int32) (hb hby at_198) rfl ?_
      refine own_s_icmpNo X145.here hx (hb hby at_199) (Jvm.Free.XT.ii_ne_f ((by decide))) ?_
      refine own_s_iconst X145.here hx (1 : Int32) (hb hby at_202) rfl ?_
      show own_Go p e below T145 (mkF m 203 #[.val (.int c0), .val (.int i0), .val (.int s0), .val (.int t0), .val (.int u0), .val (.int nb), .val (.int cp), .val (.int (2 : Int32)), .val (.int (0 : Int32)), .val (.int (1 : Int32)), .val (.int sv), .val (.int tv), .val (.int uv), .val (.ref b125), .val (.int (1 : Int32))] [(.int (1 : Int32))]) _
      refine own_s_goto X145.here hx 207 (hb hby at_203) (by decide) (by decide) ?_
      refine own_s_istore X145.here hx #[.val (.int c0), .val (.int i0), .val (.int s0), .val (.int t0), .val (.int u0), .val (.int nb), .val (.int cp), .val (.int (2 : Int32)), .val (.int (0 : Int32)), .val (.int (1 : Int32)), .val (.int sv), .val (.int tv), .val (.int uv), .val (.ref b125), .val (.int (1 : Int32))] (hb hby at_207) rfl ?_
      refine own_s_iload X145.here hx (hb hby at_209) rfl ?_
      refine own_retZ X145 hx hret hlk (hb hby at_211) rfl (by decide) (by decide) ?_
      exact ⟨rfl, N145⟩
    ·
      have hnsv : nar .char ((sv + (1 : Int32)).toUInt32.toUInt16.toUInt32.toInt32) = (sv + (1 : Int32)) := by rw [← hsv]; exact own_pick_n s0 cp hcb hm
      have hntv : nar .char ((tv + (1 : Int32)).toUInt32.toUInt16.toUInt32.toInt32) = (tv + (1 : Int32)) := by rw [← htv]; exact own_pick_n t0 cp hcb hm
      have hnuv : nar .char ((uv + (1 : Int32)).toUInt32.toUInt16.toUInt32.toInt32) = (uv + (1 : Int32)) := by rw [← huv]; exact own_pick_n u0 cp hcb hm
      obtain ⟨T146, h146, X146, e146, E146, A146, D146, -, st146⟩ := newO X124 hx hZ hown (hw _ (List.mem_of_getElem? (i := 5) rfl)) (hw _ (List.mem_of_getElem? (i := 6) rfl)) (hw _ (List.mem_of_getElem? (i := 7) rfl)) e124 (g := (mkF m 83 #[.val (.int c0), .val (.int i0), .val (.int s0), .val (.int t0), .val (.int u0), .val (.int nb), .val (.int cp), .val (.int (2 : Int32)), .val (.int (0 : Int32)), .val (.int (1 : Int32)), .val (.int sv), .val (.int tv), .val (.int uv), .unset, .unset] [])) rfl (hb hby at_83) (by decide) (by decide)
      obtain ⟨b146, g146⟩ : ∃ z, z = h0.size := ⟨_, rfl⟩
      rw [← g146] at A146 D146 st146
      have ge_b146 : n0 ≤ b146 := Nat.le_trans Z0 (Nat.le_of_eq g146.symm)
      have SZ146 : n0 ≤ h146.size := Nat.le_trans Z0 E146.1
      have f147 : Fld Z h146 b146 "com/example/tallymark/tallymark/SlotArray" "narrow" "[C" .null := D146 (Or.inl (hw _ (List.mem_of_getElem? (i := 17) rfl))) (ty := (.array .char)) (by decide)
      have f148 : Fld Z h146 b146 "com/example/tallymark/tallymark/SlotArray" "wide" "[I" .null := D146 (Or.inl (hw _ (List.mem_of_getElem? (i := 35) rfl))) (ty := (.array .int)) (by decide)
      refine own_by st146 ?_
      show own_Go p e below T146 (mkF m 86 #[.val (.int c0), .val (.int i0), .val (.int s0), .val (.int t0), .val (.int u0), .val (.int nb), .val (.int cp), .val (.int (2 : Int32)), .val (.int (0 : Int32)), .val (.int (1 : Int32)), .val (.int sv), .val (.int tv), .val (.int uv), .unset, .unset] [(.ref b146)]) _
      refine own_s_dup X146.here hx (hb hby at_86) rfl ?_
      refine own_s_iload X146.here hx (hb hby at_87) rfl ?_
      refine own_s_iconst X146.here hx (3 : Int32) (hb hby at_89) rfl ?_
      obtain ⟨_, _, ⟨T149, L149, k149, n149⟩, -, X149, ⟨Lc149, hQ149, l149, y149, z149⟩, st149⟩ := X146.specialBack hx (y := (⟨"com/example/tallymark/tallymark/SlotArray", "<init>", "(II)V"⟩ : MethodName)) rfl hown (mvT hZ (hw _ (List.mem_of_getElem? (i := 8) rfl))) (mvT hZ (hw _ (List.mem_of_getElem? (i := 9) rfl))) (mvT hZ (hw _ (List.mem_of_getElem? (i := 10) rfl))) (by decide) (backOf (W := 1) (own_inin l Z a0 hw [] b146 cp (3 : Int32) 3 h146 n0 SZ146 hm rfl (by decide) (by decide) A146 f147 f148 ge_b146) hZ (hw _ (List.mem_of_getElem? (i := 10) rfl)) (hw _ (List.mem_of_getElem? (i := 7) rfl)) (by decide) (by decide)) (g := (mkF m 90 #[.val (.int c0), .val (.int i0), .val (.int s0), .val (.int t0), .val (.int u0), .val (.int nb), .val (.int cp), .val (.int (2 : Int32)), .val (.int (0 : Int32)), .val (.int (1 : Int32)), .val (.int sv), .val (.int tv), .val (.int uv), .unset, .unset] [(.int (3 : Int32)), (.int cp), (.ref b146), (.ref b146)])) rfl (by rw [hml]; rfl) (Steps.refl _) (a := b146) (argsL := [(.int cp), (.int (3 : Int32))]) (rest := [(.ref b146)]) (lenOf own_pd_1 rfl) rfl (by show 2 * 0 + _ ≤ _; exact Nat.le_of_eq rfl) (hb hby at_90) (fun _ _ => ⟨rfl, e146, (by decide : 1 + 1 ≤ _), (by decide : 2 + 8 ≤ _)⟩)
      dsimp only [Pt.U, Pt.locs, Pt.cells, Pt.slots] at X149 l149 y149 z149 st149 hQ149
      subst l149 y149 z149
      obtain ⟨rfl, N149q, K149, a149, ga149, na149, fn149, fa149⟩ := hQ149
      have N149 := Fr.app N124 N149q
      have f150 := A146.keep K149
      have SZ149 : n0 ≤ T149.heap.size := Nat.le_trans SZ146 K149.1
      refine own_by (fun t k => st149.trans k) ?_
      show own_Go p e below T149 (mkF m 93 #[.val (.int c0), .val (.int i0), .val (.int s0), .val (.int t0), .val (.int u0), .val (.int nb), .val (.int cp), .val (.int (2 : Int32)), .val (.int (0 : Int32)), .val (.int (1 : Int32)), .val (.int sv), .val (.int tv), .val (.int uv), .unset, .unset] [(.ref b146)]) _
      refine own_s_astore X149.here hx #[.val (.int c0), .val (.int i0), .val (.int s0), .val (.int t0), .val (.int u0), .val (.int nb), .val (.int cp), .val (.int (2 : Int32)), .val (.int (0 : Int32)), .val (.int (1 : Int32)), .val (.int sv), .val (.int tv), .val (.int uv), .val (.ref b146), .unset] (hb hby at_93) rfl rfl ?_
      refine own_s_aload X149.here hx (hb hby at_95) rfl rfl ?_
      refine own_s_iload X149.here hx (hb hby at_97) rfl ?_
      refine own_s_iload X149.here hx (hb hby at_99) rfl ?_
      obtain ⟨cq151, kq151, q151a, q151b, q151c⟩ := isOf hZ rfl f150
      obtain ⟨_, _, ⟨T151, L151, k151, n151⟩, -, X151, ⟨Lc151, hQ151, l151, y151, z151⟩, st151⟩ := X149.virtualBack hx (y := (⟨"com/example/tallymark/tallymark/SlotArray", "set", "(II)V"⟩ : MethodName)) (z := (⟨"com/example/tallymark/tallymark/SlotArray", "set", "(II)V"⟩ : MethodName)) hown (mvT hZ (hw _ (List.mem_of_getElem? (i := 18) rfl))) (mvT hZ (hw _ (List.mem_of_getElem? (i := 19) rfl))) (notFace_of_selects (args := #[]) (mvT hZ (hw _ (List.mem_of_getElem? (i := 21) rfl)))) (mvT hZ (hw _ (List.mem_of_getElem? (i := 21) rfl))) (mvT hZ (hw _ (List.mem_of_getElem? (i := 20) rfl))) (by decide) (backOf (W := 0) (own_setn l Z a0 hw [] b146 (2 : Int32) tv a149 3 2 (fun _ => (.int (0 : Int32))) T149.heap n0 SZ149 (by decide) (by decide) hntv fn149 fa149 ga149 na149) hZ (hw _ (List.mem_of_getElem? (i := 22) rfl)) (hw _ (List.mem_of_getElem? (i := 7) rfl)) (by decide) (by decide)) q151a q151c (g := (mkF m 101 #[.val (.int c0), .val (.int i0), .val (.int s0), .val (.int t0), .val (.int u0), .val (.int nb), .val (.int cp), .val (.int (2 : Int32)), .val (.int (0 : Int32)), .val (.int (1 : Int32)), .val (.int sv), .val (.int tv), .val (.int uv), .val (.ref b146), .unset] [(.int tv), (.int (2 : Int32)), (.ref b146)])) rfl (by rw [hml]; rfl) (Steps.refl _) (argsL := [(.int (2 : Int32)), (.int tv)]) (rest := []) (lenOf own_pd_1 rfl) rfl (by show 2 * 0 + _ ≤ _; exact Nat.le_of_eq rfl) (hb hby at_101) (fun _ _ => ⟨rfl, rfl, (by decide : 2 + 0 ≤ _), (by decide : 10 + 0 ≤ _)⟩)
      dsimp only [Pt.U, Pt.locs, Pt.cells, Pt.slots] at X151 l151 y151 z151 st151 hQ151
      subst l151 y151 z151
      obtain ⟨rfl, N151q, K151, fa151⟩ := hQ151
      have N151 := Fr.app N149 N151q
      have f152 := f150.keep K151
      have f153 := fn149.keep K151 (ninS na149 nin0)
      have SZ151 : n0 ≤ T151.heap.size := Nat.le_trans SZ149 K151.1
      refine own_by (fun t k => st151.trans k) ?_
      show own_Go p e below T151 (mkF m 104 #[.val (.int c0), .val (.int i0), .val (.int s0), .val (.int t0), .val (.int u0), .val (.int nb), .val (.int cp), .val (.int (2 : Int32)), .val (.int (0 : Int32)), .val (.int (1 : Int32)), .val (.int sv), .val (.int tv), .val (.int uv), .val (.ref b146), .unset] []) _
      refine own_s_aload X151.here hx (hb hby at_104) rfl rfl ?_
      refine own_s_iload X151.here hx (hb hby at_106) rfl ?_
      refine own_s_iload X151.here hx (hb hby at_108) rfl ?_
      obtain ⟨cq154, kq154, q154a, q154b, q154c⟩ := isOf hZ rfl f152
      obtain ⟨_, _, ⟨T154, L154, k154, n154⟩, -, X154, ⟨Lc154, hQ154, l154, y154, z154⟩, st154⟩ := X151.virtualBack hx (y := (⟨"com/example/tallymark/tallymark/SlotArray", "set", "(II)V"⟩ : MethodName)) (z := (⟨"com/example/tallymark/tallymark/SlotArray", "set", "(II)V"⟩ : MethodName)) hown (mvT hZ (hw _ (List.mem_of_getElem? (i := 18) rfl))) (mvT hZ (hw _ (List.mem_of_getElem? (i := 19) rfl))) (notFace_of_selects (args := #[]) (mvT hZ (hw _ (List.mem_of_getElem? (i := 21) rfl)))) (mvT hZ (hw _ (List.mem_of_getElem? (i := 21) rfl))) (mvT hZ (hw _ (List.mem_of_getElem? (i := 20) rfl))) (by decide) (backOf (W := 0) (own_setn l Z a0 hw [] b146 (0 : Int32) uv a149 3 0 (own_upd (fun _ => (.int (0 : Int32))) 2 (.int (tv + (1 : Int32)))) T151.heap n0 SZ151 (by decide) (by decide) hnuv f153 fa151 ga149 na149) hZ (hw _ (List.mem_of_getElem? (i := 22) rfl)) (hw _ (List.mem_of_getElem? (i := 7) rfl)) (by decide) (by decide)) q154a q154c (g := (mkF m 110 #[.val (.int c0), .val (.int i0), .val (.int s0), .val (.int t0), .val (.int u0), .val (.int nb), .val (.int cp), .val (.int (2 : Int32)), .val (.int (0 : Int32)), .val (.int (1 : Int32)), .val (.int sv), .val (.int tv), .val (.int uv), .val (.ref b146), .unset] [(.int uv), (.int (0 : Int32)), (.ref b146)])) rfl (by rw [hml]; rfl) (Steps.refl _) (argsL := [(.int (0 : Int32)), (.int uv)]) (rest := []) (lenOf own_pd_1 rfl) rfl (by show 2 * 0 + _ ≤ _; exact Nat.le_of_eq rfl) (hb hby at_110) (fun _ _ => ⟨rfl, rfl, (by decide : 2 + 0 ≤ _), (by decide : 10 + 0 ≤ _)⟩)
      dsimp only [Pt.U, Pt.locs, Pt.cells, Pt.slots] at X154 l154 y154 z154 st154 hQ154
      subst l154 y154 z154
      obtain ⟨rfl, N154q, K154, fa154⟩ := hQ154
      have N154 := Fr.app N151 N154q
      have f155 := f152.keep K154
      have f156 := f153.keep K154 (ninS na149 nin0)
      have SZ154 : n0 ≤ T154.heap.size := Nat.le_trans SZ151 K154.1
      refine own_by (fun t k => st154.trans k) ?_
      show own_Go p e below T154 (mkF m 113 #[.val (.int c0), .val (.int i0), .val (.int s0), .val (.int t0), .val (.int u0), .val (.int nb), .val (.int cp), .val (.int (2 : Int32)), .val (.int (0 : Int32)), .val (.int (1 : Int32)), .val (.int sv), .val (.int tv), .val (.int uv), .val (.ref b146), .unset] []) _
      refine own_s_aload X154.here hx (hb hby at_113) rfl rfl ?_
      refine own_s_iload X154.here hx (hb hby at_115) rfl ?_
      refine own_s_iload X154.here hx (hb hby at_117) rfl ?_
      obtain ⟨cq157, kq157, q157a, q157b, q157c⟩ := isOf hZ rfl f155
      obtain ⟨_, _, ⟨T157, L157, k157, n157⟩, -, X157, ⟨Lc157, hQ157, l157, y157, z157⟩, st157⟩ := X154.virtualBack hx (y := (⟨"com/example/tallymark/tallymark/SlotArray", "set", "(II)V"⟩ : MethodName)) (z := (⟨"com/example/tallymark/tallymark/SlotArray", "set", "(II)V"⟩ : MethodName)) hown (mvT hZ (hw _ (List.mem_of_getElem? (i := 18) rfl))) (mvT hZ (hw _ (List.mem_of_getElem? (i := 19) rfl))) (notFace_of_selects (args := #[]) (mvT hZ (hw _ (List.mem_of_getElem? (i := 21) rfl)))) (mvT hZ (hw _ (List.mem_of_getElem? (i := 21) rfl))) (mvT hZ (hw _ (List.mem_of_getElem? (i := 20) rfl))) (by decide) (backOf (W := 0) (own_setn l Z a0 hw [] b146 (2 : Int32) sv a149 3 2 (own_upd (own_upd (fun _ => (.int (0 : Int32))) 2 (.int (tv + (1 : Int32)))) 0 (.int (uv + (1 : Int32)))) T154.heap n0 SZ154 (by decide) (by decide) hnsv f156 fa154 ga149 na149) hZ (hw _ (List.mem_of_getElem? (i := 22) rfl)) (hw _ (List.mem_of_getElem? (i := 7) rfl)) (by decide) (by decide)) q157a q157c (g := (mkF m 119 #[.val (.int c0), .val (.int i0), .val (.int s0), .val (.int t0), .val (.int u0), .val (.int nb), .val (.int cp), .val (.int (2 : Int32)), .val (.int (0 : Int32)), .val (.int (1 : Int32)), .val (.int sv), .val (.int tv), .val (.int uv), .val (.ref b146), .unset] [(.int sv), (.int (2 : Int32)), (.ref b146)])) rfl (by rw [hml]; rfl) (Steps.refl _) (argsL := [(.int (2 : Int32)), (.int sv)]) (rest := []) (lenOf own_pd_1 rfl) rfl (by show 2 * 0 + _ ≤ _; exact Nat.le_of_eq rfl) (hb hby at_119) (fun _ _ => ⟨rfl, rfl, (by decide : 2 + 0 ≤ _), (by decide : 10 + 0 ≤ _)⟩)
      dsimp only [Pt.U, Pt.locs, Pt.cells, Pt.slots] at X157 l157 y157 z157 st157 hQ157
      subst l157 y157 z157
      obtain ⟨rfl, N157q, K157, fa157⟩ := hQ157
      have N157 := Fr.app N154 N157q
      have f158 := f155.keep K157
      have f159 := f156.keep K157 (ninS na149 nin0)
      have SZ157 : n0 ≤ T157.heap.size := Nat.le_trans SZ154 K157.1
      refine own_by (fun t k => st157.trans k) ?_
      show own_Go p e below T157 (mkF m 122 #[.val (.int c0), .val (.int i0), .val (.int s0), .val (.int t0), .val (.int u0), .val (.int nb), .val (.int cp), .val (.int (2 : Int32)), .val (.int (0 : Int32)), .val (.int (1 : Int32)), .val (.int sv), .val (.int tv), .val (.int uv), .val (.ref b146), .unset] []) _
      refine own_s_aload X157.here hx (hb hby at_122) rfl rfl ?_
      refine own_s_iload X157.here hx (hb hby at_124) rfl ?_
      obtain ⟨cq160, kq160, q160a, q160b, q160c⟩ := isOf hZ rfl f158
      obtain ⟨_, _, ⟨T160, L160, k160, n160⟩, -, X160, ⟨Lc160, hQ160, l160, y160, z160⟩, st160⟩ := X157.virtualBack hx (y := (⟨"com/example/tallymark/tallymark/SlotArray", "get", "(I)I"⟩ : MethodName)) (z := (⟨"com/example/tallymark/tallymark/SlotArray", "get", "(I)I"⟩ : MethodName)) hown (mvT hZ (hw _ (List.mem_of_getElem? (i := 23) rfl))) (mvT hZ (hw _ (List.mem_of_getElem? (i := 24) rfl))) (notFace_of_selects (args := #[]) (mvT hZ (hw _ (List.mem_of_getElem? (i := 26) rfl)))) (mvT hZ (hw _ (List.mem_of_getElem? (i := 26) rfl))) (mvT hZ (hw _ (List.mem_of_getElem? (i := 25) rfl))) (by decide) (backOf (W := 0) (own_getn l Z a0 hw [] b146 (2 : Int32) a149 3 2 (own_upd (own_upd (own_upd (fun _ => (.int (0 : Int32))) 2 (.int (tv + (1 : Int32)))) 0 (.int (uv + (1 : Int32)))) 2 (.int (sv + (1 : Int32)))) (sv + (1 : Int32)) T157.heap n0 SZ157 (by decide) (by decide) rfl f159 fa157) hZ (hw _ (List.mem_of_getElem? (i := 27) rfl)) (hw _ (List.mem_of_getElem? (i := 7) rfl)) (by decide) (by decide)) q160a q160c (g := (mkF m 126 #[.val (.int c0), .val (.int i0), .val (.int s0), .val (.int t0), .val (.int u0), .val (.int nb), .val (.int cp), .val (.int (2 : Int32)), .val (.int (0 : Int32)), .val (.int (1 : Int32)), .val (.int sv), .val (.int tv), .val (.int uv), .val (.ref b146), .unset] [(.int (2 : Int32)), (.ref b146)])) rfl (by rw [hml]; rfl) (Steps.refl _) (argsL := [(.int (2 : Int32))]) (rest := []) (lenOf own_pd_3 rfl) rfl (by show 2 * 0 + _ ≤ _; exact Nat.le_of_eq rfl) (hb hby at_126) (fun _ _ => ⟨rfl, rfl, (by decide : 2 + 0 ≤ _), (by decide : 10 + 0 ≤ _)⟩)
      dsimp only [Pt.U, Pt.locs, Pt.cells, Pt.slots] at X160 l160 y160 z160 st160 hQ160
      subst l160 y160 z160
      obtain ⟨rfl, N160q, e160⟩ := hQ160
      have N160 := Fr.app N157 N160q
      refine own_by (fun t k => st160.trans k) ?_
      show own_Go p e below T160 (mkF m 129 #[.val (.int c0), .val (.int i0), .val (.int s0), .val (.int t0), .val (.int u0), .val (.int nb), .val (.int cp), .val (.int (2 : Int32)), .val (.int (0 : Int32)), .val (.int (1 : Int32)), .val (.int sv), .val (.int tv), .val (.int uv), .val (.ref b146), .unset] [(.int ((sv + (1 : Int32)) - (1 : Int32)))]) _
      refine own_s_iload X160.here hx (hb hby at_129) rfl ?_
      refine own_s_icmpNo X160.here hx (hb hby at_131) (Jvm.Free.XT.ii_ne_f ((own_as _))) ?_
      refine own_s_iconst X160.here hx (1 : Int32) (hb hby at_134) rfl ?_
      show own_Go p e below T160 (mkF m 135 #[.val (.int c0), .val (.int i0), .val (.int s0), .val (.int t0), .val (.int u0), .val (.int nb), .val (.int cp), .val (.int (2 : Int32)), .val (.int (0 : Int32)), .val (.int (1 : Int32)), .val (.int sv), .val (.int tv), .val (.int uv), .val (.ref b146), .unset] [(.int (1 : Int32))]) _
      refine own_s_goto X160.here hx 139 (hb hby at_135) (by decide) (by decide) ?_
      refine own_s_istore X160.here hx #[.val (.int c0), .val (.int i0), .val (.int s0), .val (.int t0), .val (.int u0), .val (.int nb), .val (.int cp), .val (.int (2 : Int32)), .val (.int (0 : Int32)), .val (.int (1 : Int32)), .val (.int sv), .val (.int tv), .val (.int uv), .val (.ref b146), .val (.int (1 : Int32))] (hb hby at_139) rfl ?_
      refine own_s_iload X160.here hx (hb hby at_141) rfl ?_
      refine own_s_ifNo X160.here hx (hb hby at_143) (Jvm.Free.XT.i0_eq_f ((by decide))) ?_
      refine own_s_aload X160.here hx (hb hby at_146) rfl rfl ?_
      refine own_s_iload X160.here hx (hb hby at_148) rfl ?_
      obtain ⟨cq161, kq161, q161a, q161b, q161c⟩ := isOf hZ e160 f158
      obtain ⟨_, _, ⟨T161, L161, k161, n161⟩, -, X161, ⟨Lc161, hQ161, l161, y161, z161⟩, st161⟩ := X160.virtualBack hx (y := (⟨"com/example/tallymark/tallymark/SlotArray", "get", "(I)I"⟩ : MethodName)) (z := (⟨"com/example/tallymark/tallymark/SlotArray", "get", "(I)I"⟩ : MethodName)) hown (mvT hZ (hw _ (List.mem_of_getElem? (i := 23) rfl))) (mvT hZ (hw _ (List.mem_of_getElem? (i := 24) rfl))) (notFace_of_selects (args := #[]) (mvT hZ (hw _ (List.mem_of_getElem? (i := 26) rfl)))) (mvT hZ (hw _ (List.mem_of_getElem? (i := 26) rfl))) (mvT hZ (hw _ (List.mem_of_getElem? (i := 25) rfl))) (by decide) (backOf (W := 0) (own_getn l Z a0 hw [] b146 (0 : Int32) a149 3 0 (own_upd (own_upd (own_upd (fun _ => (.int (0 : Int32))) 2 (.int (tv + (1 : Int32)))) 0 (.int (uv + (1 : Int32)))) 2 (.int (sv + (1 : Int32)))) (uv + (1 : Int32)) T157.heap n0 SZ157 (by decide) (by decide) rfl f159 fa157) hZ (hw _ (List.mem_of_getElem? (i := 27) rfl)) (hw _ (List.mem_of_getElem? (i := 7) rfl)) (by decide) (by decide)) q161a q161c (g := (mkF m 150 #[.val (.int c0), .val (.int i0), .val (.int s0), .val (.int t0), .val (.int u0), .val (.int nb), .val (.int cp), .val (.int (2 : Int32)), .val (.int (0 : Int32)), .val (.int (1 : Int32)), .val (.int sv), .val (.int tv), .val (.int uv), .val (.ref b146), .val (.int (1 : Int32))] [(.int (0 : Int32)), (.ref b146)])) rfl (by rw [hml]; rfl) (Steps.refl _) (argsL := [(.int (0 : Int32))]) (rest := []) (lenOf own_pd_3 rfl) rfl (by show 2 * 0 + _ ≤ _; exact Nat.le_of_eq rfl) (hb hby at_150) (fun _ _ => ⟨rfl, e160, (by decide : 2 + 0 ≤ _), (by decide : 10 + 0 ≤ _)⟩)
      dsimp only [Pt.U, Pt.locs, Pt.cells, Pt.slots] at X161 l161 y161 z161 st161 hQ161
      subst l161 y161 z161
      obtain ⟨rfl, N161q, e161⟩ := hQ161
      have N161 := Fr.app N160 N161q
      refine own_by (fun t k => st161.trans k) ?_
      show own_Go p e below T161 (mkF m 153 #[.val (.int c0), .val (.int i0), .val (.int s0), .val (.int t0), .val (.int u0), .val (.int nb), .val (.int cp), .val (.int (2 : Int32)), .val (.int (0 : Int32)), .val (.int (1 : Int32)), .val (.int sv), .val (.int tv), .val (.int uv), .val (.ref b146), .val (.int (1 : Int32))] [(.int ((uv + (1 : Int32)) - (1 : Int32)))]) _
      refine own_s_iload X161.here hx (hb hby at_153) rfl ?_
      refine own_s_icmpNo X161.here hx (hb hby at_155) (Jvm.Free.XT.ii_ne_f ((own_as _))) ?_
      refine own_s_iconst X161.here hx (1 : Int32) (hb hby at_158) rfl ?_
      show own_Go p e below T161 (mkF m 159 #[.val (.int c0), .val (.int i0), .val (.int s0), .val (.int t0), .val (.int u0), .val (.int nb), .val (.int cp), .val (.int (2 : Int32)), .val (.int (0 : Int32)), .val (.int (1 : Int32)), .val (.int sv), .val (.int tv), .val (.int uv), .val (.ref b146), .val (.int (1 : Int32))] [(.int (1 : Int32))]) _
      refine own_s_goto X161.here hx 163 (hb hby at_159) (by decide) (by decide) ?_
      refine own_s_istore X161.here hx #[.val (.int c0), .val (.int i0), .val (.int s0), .val (.int t0), .val (.int u0), .val (.int nb), .val (.int cp), .val (.int (2 : Int32)), .val (.int (0 : Int32)), .val (.int (1 : Int32)), .val (.int sv), .val (.int tv), .val (.int uv), .val (.ref b146), .val (.int (1 : Int32))] (hb hby at_163) rfl ?_
      refine own_s_iload X161.here hx (hb hby at_165) rfl ?_
      refine own_s_ifNo X161.here hx (hb hby at_167) (Jvm.Free.XT.i0_eq_f ((by decide))) ?_
      refine own_s_aload X161.here hx (hb hby at_170) rfl rfl ?_
      refine own_s_iload X161.here hx (hb hby at_172) rfl ?_
      obtain ⟨cq162, kq162, q162a, q162b, q162c⟩ := isOf hZ e161 f158
      obtain ⟨_, _, ⟨T162, L162, k162, n162⟩, -, X162, ⟨Lc162, hQ162, l162, y162, z162⟩, st162⟩ := X161.virtualBack hx (y := (⟨"com/example/tallymark/tallymark/SlotArray", "get", "(I)I"⟩ : MethodName)) (z := (⟨"com/example/tallymark/tallymark/SlotArray", "get", "(I)I"⟩ : MethodName)) hown (mvT hZ (hw _ (List.mem_of_getElem? (i := 23) rfl))) (mvT hZ (hw _ (List.mem_of_getElem? (i := 24) rfl))) (notFace_of_selects (args := #[]) (mvT hZ (hw _ (List.mem_of_getElem? (i := 26) rfl)))) (mvT hZ (hw _ (List.mem_of_getElem? (i := 26) rfl))) (mvT hZ (hw _ (List.mem_of_getElem? (i := 25) rfl))) (by decide) (backOf (W := 0) (own_getn l Z a0 hw [] b146 (1 : Int32) a149 3 1 (own_upd (own_upd (own_upd (fun _ => (.int (0 : Int32))) 2 (.int (tv + (1 : Int32)))) 0 (.int (uv + (1 : Int32)))) 2 (.int (sv + (1 : Int32)))) (0 : Int32) T157.heap n0 SZ157 (by decide) (by decide) rfl f159 fa157) hZ (hw _ (List.mem_of_getElem? (i := 27) rfl)) (hw _ (List.mem_of_getElem? (i := 7) rfl)) (by decide) (by decide)) q162a q162c (g := (mkF m 174 #[.val (.int c0), .val (.int i0), .val (.int s0), .val (.int t0), .val (.int u0), .val (.int nb), .val (.int cp), .val (.int (2 : Int32)), .val (.int (0 : Int32)), .val (.int (1 : Int32)), .val (.int sv), .val (.int tv), .val (.int uv), .val (.ref b146), .val (.int (1 : Int32))] [(.int (1 : Int32)), (.ref b146)])) rfl (by rw [hml]; rfl) (Steps.refl _) (argsL := [(.int (1 : Int32))]) (rest := []) (lenOf own_pd_3 rfl) rfl (by show 2 * 0 + _ ≤ _; exact Nat.le_of_eq rfl) (hb hby at_174) (fun _ _ => ⟨rfl, e161, (by decide : 2 + 0 ≤ _), (by decide : 10 + 0 ≤ _)⟩)
      dsimp only [Pt.U, Pt.locs, Pt.cells, Pt.slots] at X162 l162 y162 z162 st162 hQ162
      subst l162 y162 z162
      obtain ⟨rfl, N162q, e162⟩ := hQ162
      have N162 := Fr.app N161 N162q
      refine own_by (fun t k => st162.trans k) ?_
      show own_Go p e below T162 (mkF m 177 #[.val (.int c0), .val (.int i0), .val (.int s0), .val (.int t0), .val (.int u0), .val (.int nb), .val (.int cp), .val (.int (2 : Int32)), .val (.int (0 : Int32)), .val (.int (1 : Int32)), .val (.int sv), .val (.int tv), .val (.int uv), .val (.ref b146), .val (.int (1 : Int32))] [(.int ((0 : Int32) - (1 : Int32)))]) _
      refine own_s_iconst X162.here hx (-1 : Int32) (hb hby at_177) rfl ?_
      refine own_s_icmpNo X162.here hx (hb hby at_178) (Jvm.Free.XT.ii_ne_f ((by decide))) ?_
      refine own_s_iconst X162.here hx (1 : Int32) (hb hby at_181) rfl ?_
      show own_Go p e below T162 (mkF m 182 #[.val (.int c0), .val (.int i0), .val (.int s0), .val (.int t0), .val (.int u0), .val (.int nb), .val (.int cp), .val (.int (2 : Int32)), .val (.int (0 : Int32)), .val (.int (1 : Int32)), .val (.int sv), .val (.int tv), .val (.int uv), .val (.ref b146), .val (.int (1 : Int32))] [(.int (1 : Int32))]) _
      refine own_s_goto X162.here hx 186 (hb hby at_182) (by decide) (by decide) ?_
      refine own_s_istore X162.here hx #[.val (.int c0), .val (.int i0), .val (.int s0), .val (.int t0), .val (.int u0), .val (.int nb), .val (.int cp), .val (.int (2 : Int32)), .val (.int (0 : Int32)), .val (.int (1 : Int32)), .val (.int sv), .val (.int tv), .val (.int uv), .val (.ref b146), .val (.int (1 : Int32))] (hb hby at_186) rfl ?_
      refine own_s_iload X162.here hx (hb hby at_188) rfl ?_
      refine own_s_ifNo X162.here hx (hb hby at_190) (Jvm.Free.XT.i0_eq_f ((by decide))) ?_
      refine own_s_aload X162.here hx (hb hby at_193) rfl rfl ?_
      obtain ⟨cq163, kq163, q163a, q163b, q163c⟩ := isOf hZ e162 f158
      obtain ⟨_, _, ⟨T163, L163, k163, n163⟩, -, X163, ⟨Lc163, hQ163, l163, y163, z163⟩, st163⟩ := X162.virtualBack hx (y := (⟨"com/example/tallymark/tallymark/SlotArray", "length", "()I"⟩ : MethodName)) (z := (⟨"com/example/tallymark/tallymark/SlotArray", "length", "()I"⟩ : MethodName)) hown (mvT hZ (hw _ (List.mem_of_getElem? (i := 28) rfl))) (mvT hZ (hw _ (List.mem_of_getElem? (i := 29) rfl))) (notFace_of_selects (args := #[]) (mvT hZ (hw _ (List.mem_of_getElem? (i := 31) rfl)))) (mvT hZ (hw _ (List.mem_of_getElem? (i := 31) rfl))) (mvT hZ (hw _ (List.mem_of_getElem? (i := 30) rfl))) (by decide) (backOf (W := 0) (own_lenn l Z a0 hw [] b146 a149 3 (own_upd (own_upd (own_upd (fun _ => (.int (0 : Int32))) 2 (.int (tv + (1 : Int32)))) 0 (.int (uv + (1 : Int32)))) 2 (.int (sv + (1 : Int32)))) (3 : Int32) T157.heap n0 SZ157 rfl f159 fa157) hZ (hw _ (List.mem_of_getElem? (i := 32) rfl)) (hw _ (List.mem_of_getElem? (i := 7) rfl)) (by decide) (by decide)) q163a q163c (g := (mkF m 195 #[.val (.int c0), .val (.int i0), .val (.int s0), .val (.int t0), .val (.int u0), .val (.int nb), .val (.int cp), .val (.int (2 : Int32)), .val (.int (0 : Int32)), .val (.int (1 : Int32)), .val (.int sv), .val (.int tv), .val (.int uv), .val (.ref b146), .val (.int (1 : Int32))] [(.ref b146)])) rfl (by rw [hml]; rfl) (Steps.refl _) (argsL := []) (rest := []) (lenOf own_pd_4 rfl) rfl (by show 2 * 0 + _ ≤ _; exact Nat.le_of_eq rfl) (hb hby at_195) (fun _ _ => ⟨rfl, e162, (by decide : 2 + 0 ≤ _), (by decide : 10 + 0 ≤ _)⟩)
      dsimp only [Pt.U, Pt.locs, Pt.cells, Pt.slots] at X163 l163 y163 z163 st163 hQ163
      subst l163 y163 z163
      obtain ⟨rfl, N163q, e163⟩ := hQ163
      have N163 := Fr.app N162 N163q
      refine own_by (fun t k => st163.trans k) ?_
      show own_Go p e below T163 (mkF m 198 #[.val (.int c0), .val (.int i0), .val (.int s0), .val (.int t0), .val (.int u0), .val (.int nb), .val (.int cp), .val (.int (2 : Int32)), .val (.int (0 : Int32)), .val (.int (1 : Int32)), .val (.int sv), .val (.int tv), .val (.int uv), .val (.ref b146), .val (.int (1 : Int32))] [(.int (3 : Int32))]) _
      refine own_s_iconst X163.here hx (3 : Int32) (hb hby at_198) rfl ?_
      refine own_s_icmpNo X163.here hx (hb hby at_199) (Jvm.Free.XT.ii_ne_f ((by decide))) ?_
      refine own_s_iconst X163.here hx (1 : Int32) (hb hby at_202) rfl ?_
      show own_Go p e below T163 (mkF m 203 #[.val (.int c0), .val (.int i0), .val (.int s0), .val (.int t0), .val (.int u0), .val (.int nb), .val (.int cp), .val (.int (2 : Int32)), .val (.int (0 : Int32)), .val (.int (1 : Int32)), .val (.int sv), .val (.int tv), .val (.int uv), .val (.ref b146), .val (.int (1 : Int32))] [(.int (1 : Int32))]) _
      refine own_s_goto X163.here hx 207 (hb hby at_203) (by decide) (by decide) ?_
      refine own_s_istore X163.here hx #[.val (.int c0), .val (.int i0), .val (.int s0), .val (.int t0), .val (.int u0), .val (.int nb), .val (.int cp), .val (.int (2 : Int32)), .val (.int (0 : Int32)), .val (.int (1 : Int32)), .val (.int sv), .val (.int tv), .val (.int uv), .val (.ref b146), .val (.int (1 : Int32))] (hb hby at_207) rfl ?_
      refine own_s_iload X163.here hx (hb hby at_209) rfl ?_
      refine own_retZ X163 hx hret hlk (hb hby at_211) rfl (by decide) (by decide) ?_
      exact ⟨rfl, N163⟩
theorem own_ml : maxLocals = 15 := rfl
theorem own_ef0 (m : MethodId) (c0 : Int32) (i0 : Int32) (s0 : Int32) (t0 : Int32) (u0 : Int32) : entryFrame m #[(.int c0), (.int i0), (.int s0), (.int t0), (.int u0)] maxLocals = mkF m 0 #[.val (.int c0), .val (.int i0), .val (.int s0), .val (.int t0), .val (.int u0), .unset, .unset, .unset, .unset, .unset, .unset, .unset, .unset, .unset, .unset] [] := by first | (simp [entryFrame, mkF, argsToLocals, Value.category, maxLocals]; done) | rfl
def own_q_own_r0 (Z : State) (c0 : Int32) (i0 : Int32) (s0 : Int32) (t0 : Int32) (u0 : Int32) (h0 : Heap) (n0 : Nat) (v : Option Value) (h : Heap) (L : List Loc) : Prop := v = some (.int 1) ∧ Fr n0 L
set_option maxRecDepth 65536 in
set_option maxHeartbeats 40000000 in
theorem own_r0 (l : Launch) (Z : State) (a0 : Array Value) (hw : ∀ d ∈ tables_1, d.before a0 Z = true) (ws : List Jvm.Cond) (c0 : Int32) (i0 : Int32) (s0 : Int32) (t0 : Int32) (u0 : Int32) (h0 : Heap) (n0 : Nat) (Z0 : n0 ≤ h0.size) :
    MetFree l x (head1 (Jvm.Cond.code x code maxLocals ret :: ws) room_1) (fun a U => a = #[(.int c0), (.int i0), (.int s0), (.int t0), (.int u0)] ∧ Z.Warmed39 U.vm ∧ U.heap = h0) (fun _ _ _ _ _ => True) (fun _ U o U' => ∃ v L, o = .returned v ∧ own_q_own_r0 Z c0 i0 s0 t0 u0 h0 n0 v U'.heap L ∧ FrameEnd U o U' L 16 128) := by
  refine MetFree.of_bodySF (plainFor_of_name own_pn_SlotArraySetPinLaw) hisR ?_
  intro p e s m args below meth c T0 Bd hml0 hP hK
  obtain ⟨rfl, hZ, hh⟩ := hP
  have hx := Bd.exec
  have hby := Bd.bytes
  have hml : c.maxLocals = 15 := hml0
  have hown : s.vm.findClass "com/example/tallymark/tallymark/SlotArraySetPinLaw" = some m.cls := findClass_of_methodNamed Bd.named
  have hnm := (name_of_methodNamed Bd.named Bd.method).1
  have hret : meth.sig.returnType = (some .boolean) := Bd.returns
  have hlk : meth.locks = false := BodyLoose.notSynchronized Bd
  have X0 : Stand p l e room_1 s m #[(.int c0), (.int i0), (.int s0), (.int t0), (.int u0)] below meth c T0 [] 0 0 := Stand.of_body Bd
  have e0 : T0.heap = h0 := by rw [← hh, Bd.state]; rfl
  have N0 := Fr.nil n0
  refine own_start (own_ef0 m c0 i0 s0 t0 u0) (Q := fun (v : Option Value) (h : Heap) (L : List Loc) => v = some (.int 1) ∧ Fr n0 L) (k := 16) (j := 128) ?_
  show own_Go p e below T0 (mkF m 0 #[.val (.int c0), .val (.int i0), .val (.int s0), .val (.int t0), .val (.int u0), .unset, .unset, .unset, .unset, .unset, .unset, .unset, .unset, .unset, .unset] []) _
  refine own_s_iloadN X0.here hx (hb hby at_0) rfl ?_
  refine own_s_sipush X0.here hx (256 : Int32) (hb hby at_1) rfl ?_
  refine own_s_iand X0.here hx (hb hby at_4) ?_
  by_cases hc5 : (i0 &&& (256 : Int32)) = 0
  ·
    show own_Go p e below T0 (mkF m 5 #[.val (.int c0), .val (.int i0), .val (.int s0), .val (.int t0), .val (.int u0), .unset, .unset, .unset, .unset, .unset, .unset, .unset, .unset, .unset, .unset] [(.int (i0 &&& (256 : Int32)))]) _
    refine own_s_ifYes X0.here hx 12 (hb hby at_5) (Jvm.Free.XT.i0_eq_t hc5) (by decide) (by decide) ?_
    refine own_s_iconst X0.here hx (0 : Int32) (hb hby at_12) rfl ?_
    refine own_s_istore X0.here hx #[.val (.int c0), .val (.int i0), .val (.int s0), .val (.int t0), .val (.int u0), .val (.int (0 : Int32)), .unset, .unset, .unset, .unset, .unset, .unset, .unset, .unset, .unset] (hb hby at_13) rfl ?_
    refine own_s_iload X0.here hx (hb hby at_15) rfl ?_
    show own_Go p e below T0 (mkF m 17 #[.val (.int c0), .val (.int i0), .val (.int s0), .val (.int t0), .val (.int u0), .val (.int (0 : Int32)), .unset, .unset, .unset, .unset, .unset, .unset, .unset, .unset, .unset] [(.int (0 : Int32))]) _
    refine own_s_ifYes X0.here hx 27 (hb hby at_17) (Jvm.Free.XT.i0_eq_t ((by decide))) (by decide) (by decide) ?_
    refine own_s_iloadN X0.here hx (hb hby at_27) rfl ?_
    refine own_by (fun tq_ kq_ => X0.ldcInt hx hown (mvT hZ (hw _ (List.mem_of_getElem? (i := 0) rfl))) (g := (mkF m 28 #[.val (.int c0), .val (.int i0), .val (.int s0), .val (.int t0), .val (.int u0), .val (.int (0 : Int32)), .unset, .unset, .unset, .unset, .unset, .unset, .unset, .unset, .unset] [(.int c0)])) rfl (hb hby at_28) tq_ kq_) ?_
    show own_Go p e below T0 (mkF m 30 #[.val (.int c0), .val (.int i0), .val (.int s0), .val (.int t0), .val (.int u0), .val (.int (0 : Int32)), .unset, .unset, .unset, .unset, .unset, .unset, .unset, .unset, .unset] [(.int (2147483647 : Int32)), (.int c0)]) _
    refine own_s_iand X0.here hx (hb hby at_30) ?_
    refine own_s_istore X0.here hx #[.val (.int c0), .val (.int i0), .val (.int s0), .val (.int t0), .val (.int u0), .val (.int (0 : Int32)), .val (.int (c0 &&& (2147483647 : Int32))), .unset, .unset, .unset, .unset, .unset, .unset, .unset, .unset] (hb hby at_31) rfl ?_
    exact own_p33 hx hZ hw hby hml hown hnm hret hlk  c0 i0 s0 t0 u0 (0 : Int32) (c0 &&& (2147483647 : Int32)) X0 e0 N0 Z0 (own_cb c0).1
  ·
    refine own_s_ifNo X0.here hx (hb hby at_5) (Jvm.Free.XT.i0_eq_f hc5) ?_
    refine own_s_iconst X0.here hx (1 : Int32) (hb hby at_8) rfl ?_
    show own_Go p e below T0 (mkF m 9 #[.val (.int c0), .val (.int i0), .val (.int s0), .val (.int t0), .val (.int u0), .unset, .unset, .unset, .unset, .unset, .unset, .unset, .unset, .unset, .unset] [(.int (1 : Int32))]) _
    refine own_s_goto X0.here hx 13 (hb hby at_9) (by decide) (by decide) ?_
    refine own_s_istore X0.here hx #[.val (.int c0), .val (.int i0), .val (.int s0), .val (.int t0), .val (.int u0), .val (.int (1 : Int32)), .unset, .unset, .unset, .unset, .unset, .unset, .unset, .unset, .unset] (hb hby at_13) rfl ?_
    refine own_s_iload X0.here hx (hb hby at_15) rfl ?_
    refine own_s_ifNo X0.here hx (hb hby at_17) (Jvm.Free.XT.i0_eq_f ((by decide))) ?_
    refine own_s_iloadN X0.here hx (hb hby at_20) rfl ?_
    refine own_by (fun tq_ kq_ => X0.ldcInt hx hown (mvT hZ (hw _ (List.mem_of_getElem? (i := 36) rfl))) (g := (mkF m 21 #[.val (.int c0), .val (.int i0), .val (.int s0), .val (.int t0), .val (.int u0), .val (.int (1 : Int32)), .unset, .unset, .unset, .unset, .unset, .unset, .unset, .unset, .unset] [(.int c0)])) rfl (hb hby at_21) tq_ kq_) ?_
    show own_Go p e below T0 (mkF m 23 #[.val (.int c0), .val (.int i0), .val (.int s0), .val (.int t0), .val (.int u0), .val (.int (1 : Int32)), .unset, .unset, .unset, .unset, .unset, .unset, .unset, .unset, .unset] [(.int (65535 : Int32)), (.int c0)]) _
    refine own_s_iand X0.here hx (hb hby at_23) ?_
    show own_Go p e below T0 (mkF m 24 #[.val (.int c0), .val (.int i0), .val (.int s0), .val (.int t0), .val (.int u0), .val (.int (1 : Int32)), .unset, .unset, .unset, .unset, .unset, .unset, .unset, .unset, .unset] [(.int (c0 &&& (65535 : Int32)))]) _
    refine own_s_goto X0.here hx 31 (hb hby at_24) (by decide) (by decide) ?_
    refine own_s_istore X0.here hx #[.val (.int c0), .val (.int i0), .val (.int s0), .val (.int t0), .val (.int u0), .val (.int (1 : Int32)), .val (.int (c0 &&& (65535 : Int32))), .unset, .unset, .unset, .unset, .unset, .unset, .unset, .unset] (hb hby at_31) rfl ?_
    exact own_p33 hx hZ hw hby hml hown hnm hret hlk  c0 i0 s0 t0 u0 (1 : Int32) (c0 &&& (65535 : Int32)) X0 e0 N0 Z0 (own_cb c0).2
set_option maxRecDepth 65536 in
set_option maxHeartbeats 40000000 in
theorem own_comes {Post : Tables → Env → Array Value → State → Outcome → State → Prop} (hpost : ∀ tb e args s v u, (limb_1_1.after args s (.returned v) u = true ∧ limb_1_2.after args s (.returned v) u = true ∧ True) → FrameEnd s (.returned v) u (Jvm.fieldLocs frame_1_writes args s ++ Jvm.arrayLocs frame_1_arrays args s ++ Jvm.staticLocs frame_1_statics s) 16 128 → Post tb e args s (.returned v) u) :
    ArmFor flags0 classFile x code maxLocals ret World_1 tables_1 room_1 Calls_1 rest_1 Pre_1 Post := by
  intro l hfl _ _ p e ha hc hk s m args below hf hA hF happ hP
  obtain ⟨hcalls, hrest, hpre⟩ := hP
  obtain ⟨-, -, -, hnamed, -, -, -, hat⟩ := (Spec.applies_iff hf).mp happ
  obtain ⟨hg, hn⟩ := and_e (Cond.before_iff.mp (show (Jvm.Cond.and given_1 narrow_1).before args s = true from hpre))
  obtain ⟨g1, g2⟩ := and_e hg
  obtain ⟨g3, g4⟩ := and_e g2
  obtain ⟨g5, g6⟩ := and_e g4
  obtain ⟨g7, g8⟩ := and_e g6
  obtain ⟨g9, g10⟩ := and_e g8
  obtain ⟨w0, w1, w2, w3, w4, rfl⟩ : ∃ w0 w1 w2 w3 w4 : Value, args = #[w0, w1, w2, w3, w4] := by
    have hs : args.size = 5 := by simpa [Cond.value, given_1] using g1
    obtain ⟨L⟩ := args
    match L, hs with
    | [w0, w1, w2, w3, w4], _ => exact ⟨w0, w1, w2, w3, w4, rfl⟩
  have hw := fun d (hd : d ∈ tables_1) => atoms_spec (ws := Jvm.Cond.code x code maxLocals ret :: tables_1) hat d (List.mem_cons_of_mem _ hd)
  obtain ⟨i0, ei0⟩ := is_v g3
  obtain rfl : w0 = (.int i0) := Option.some.inj ei0
  obtain ⟨i1, ei1⟩ := is_v g5
  obtain rfl : w1 = (.int i1) := Option.some.inj ei1
  obtain ⟨i2, ei2⟩ := is_v g7
  obtain rfl : w2 = (.int i2) := Option.some.inj ei2
  obtain ⟨i3, ei3⟩ := is_v g9
  obtain rfl : w3 = (.int i3) := Option.some.inj ei3
  obtain ⟨i4, ei4⟩ := is_v g10
  obtain rfl : w4 = (.int i4) := Option.some.inj ei4
  obtain ⟨n, o, h1, h2, h3, _, L, rfl, ⟨rfl, N⟩, hq⟩ := own_r0 l s _ hw tables_1 i0 i1 i2 i3 i4 s.heap s.heap.size (Nat.le_refl _) p e ha hc hk s m _ below hf ((Spec.applies_iff_loose hf).mp happ).1 ⟨rfl, State.Warmed39.refl s, rfl⟩ trivial
  refine ⟨n, _, h1, h2, h3, hpost _ _ _ _ _ _ ⟨Cond.after_iff.mpr rfl, Cond.after_iff.mpr (eq_i res_at (Term.int_eval (1)) rfl), trivial⟩ ⟨hq.1, hq.2.1, (hq.2.2.sift fun y hy => Or.inr (N y hy)).mono (by decide) (by decide)⟩⟩
theorem main_1_1 : Claimed_1_1 := own_comes fun _ _ _ _ _ _ h hF => ⟨h.1, hF⟩
theorem main_1_2 : Claimed_1_2 := own_comes fun _ _ _ _ _ _ h hF => ⟨h.2.1, hF⟩
end Jvm.Pilot.@@N@@
namespace Jvm.Pilot.@@N@@
open Jvm Jvm.ClassFile Sem Op Lib Jvm.Free Jvm.Stand Jvm.Pilot.@@N@@.Jvm.D
/-! MADE BY PROGRAM (witnessworld.py) out of the Statement's table words and the real class files: 11 classes; the members and pool entries that the words name. The judged class is class 1, her method 2. -/
namespace start1
open Jvm.ClassFile
def u (s : String) : CpInfo := .utf8 (stringToUtf16 s)
/-- a pool by its gaps: so many unusable entries, then the entry; so many at the end -/
def gap : Nat → List CpInfo → List CpInfo
  | 0, r => r
  | n + 1, r => .unusable :: gap n r
def poolList (es : List (Nat × CpInfo)) (last : Nat) : List CpInfo := es.foldr (fun e r => gap e.1 (e.2 :: r)) (gap last [])
def pool (es : List (Nat × CpInfo)) (last : Nat) : Array CpInfo := ⟨poolList es last⟩
def fileOf (pool : Array CpInfo) (this : Nat) (attrs : Array Attribute := #[]) (ms : Array MethodInfo := #[]) (fl : Nat := 33) (sup : Nat := 0) (ifs : Array Nat := #[]) (fds : Array FieldInfo := #[]) : ClassFile where
  minorVersion := 0
  majorVersion := 65
  constantPool := pool
  accessFlags := fl
  thisClass := this
  superClass := sup
  interfaces := ifs
  fields := fds
  methods := ms
  attributes := attrs
def plain (name : String) (sup : Option ClassId) : Class where
  name := name
  kind := .ordinary
  loader := none
  accessFlags := 33
  super := sup
  interfaces := #[]
  cf := none
  fields := #[]
  methods := #[]
  instanceTypes := #[]
  staticTypes := #[]
  resolved := #[]
  callSites := []
  init := .initialized
  statics := none
  mirror := none

def pool0 : Array CpInfo := pool [(5, u "<init>"), (0, u "()V"), (1, .class_ 10), (1, u "java/lang/Object")] 113

def k0c0 : Code := { maxStack := 0, maxLocals := 1, code := object_method_1_code, exceptionTable := #[], attributes := #[] }
def k0m0 : Method := { name := "<init>", desc := "()V", sig := { parameters := [], returnType := none }, accessFlags := 1, code := some k0c0 }
/-- java/lang/Object -/
def k0 : Class := { plain "java/lang/Object" none with
  accessFlags := 33
  interfaces := #[]
  cf := some (fileOf pool0 8 #[] #[{ accessFlags := 1, nameIndex := 5, descriptorIndex := 6, attributes := #[] }] 33 0 #[] #[])
  fields := #[]
  methods := #[k0m0]
  instanceTypes := #[]
  staticTypes := #[]
  resolved := Array.replicate 124 none
  statics := none }

def pool1 : Array CpInfo := pool [(2, .class_ 4), (1, u "java/lang/Object"), (0, u "<init>"), (0, u "()V"), (0, .integer 2147483647), (0, .integer 65535), (0, .methodref 10 11), (0, .class_ 12), (0, .nameAndType 13 14), (0, u "com/example/tallymark/tallymark/SlotArraySetPinLaw"), (0, u "slotIn"), (0, u "(II)I"), (0, .class_ 16), (0, u "com/example/tallymark/tallymark/SlotArray"), (0, .methodref 15 18), (0, .nameAndType 5 19), (0, u "(II)V"), (0, .methodref 15 21), (0, .nameAndType 22 19), (0, u "set"), (0, .methodref 15 24), (0, .nameAndType 25 26), (0, u "get"), (0, u "(I)I"), (0, .methodref 15 28), (0, .nameAndType 29 30), (0, u "length"), (0, u "()I"), (2, u "law"), (0, u "(IIIII)Z")] 3

def k1m0 : Method := { name := "<init>", desc := "()V", sig := { parameters := [], returnType := none }, accessFlags := 2, code := none }
def k1c1 : Code := { maxStack := 4, maxLocals := 6, code := method_2_code, exceptionTable := #[], attributes := #[] }
def k1m1 : Method := { name := "slotIn", desc := "(II)I", sig := { parameters := [.int, .int], returnType := some .int }, accessFlags := 10, code := some k1c1 }
def k1c2 : Code := { maxStack := 4, maxLocals := 15, code := code, exceptionTable := #[], attributes := #[] }
def k1m2 : Method := { name := "law", desc := "(IIIII)Z", sig := { parameters := [.int, .int, .int, .int, .int], returnType := some .boolean }, accessFlags := 9, code := some k1c2 }
/-- com/example/tallymark/tallymark/SlotArraySetPinLaw -/
def k1 : Class := { plain "com/example/tallymark/tallymark/SlotArraySetPinLaw" (some 0) with
  accessFlags := 49
  interfaces := #[]
  cf := some (fileOf pool1 10 #[] #[{ accessFlags := 2, nameIndex := 5, descriptorIndex := 6, attributes := #[] }, { accessFlags := 10, nameIndex := 13, descriptorIndex := 14, attributes := #[] }, { accessFlags := 9, nameIndex := 33, descriptorIndex := 34, attributes := #[] }] 49 2 #[] #[])
  fields := #[]
  methods := #[k1m0, k1m1, k1m2]
  instanceTypes := #[]
  staticTypes := #[]
  resolved := Array.replicate 38 none
  statics := none }

def pool2 : Array CpInfo := pool [(3, .methodref 4 5), (0, .class_ 6), (0, .nameAndType 7 8), (0, u "java/lang/Object"), (0, u "<init>"), (0, u "()V"), (0, .class_ 10), (0, u "com/example/tallymark/tallymark/SlotArray"), (0, .integer 65535), (0, .fieldref 9 13), (0, .nameAndType 14 15), (0, u "narrow"), (0, u "[C"), (0, .fieldref 9 17), (0, .nameAndType 18 19), (0, u "wide"), (0, u "[I"), (11, u "length"), (0, u "()I"), (14, u "NARROW_CAPACITY"), (0, u "I"), (1, u "(II)V"), (3, u "get"), (0, u "(I)I"), (0, u "set")] 6

def k2c0 : Code := { maxStack := 2, maxLocals := 3, code := prog_20_method_1_code, exceptionTable := #[], attributes := #[] }
def k2m0 : Method := { name := "<init>", desc := "(II)V", sig := { parameters := [.int, .int], returnType := none }, accessFlags := 0, code := some k2c0 }
def k2c1 : Code := { maxStack := 1, maxLocals := 1, code := prog_20_method_2_code, exceptionTable := #[], attributes := #[] }
def k2m1 : Method := { name := "length", desc := "()I", sig := { parameters := [], returnType := some .int }, accessFlags := 0, code := some k2c1 }
def k2c2 : Code := { maxStack := 2, maxLocals := 2, code := prog_20_method_3_code, exceptionTable := #[], attributes := #[] }
def k2m2 : Method := { name := "get", desc := "(I)I", sig := { parameters := [.int], returnType := some .int }, accessFlags := 0, code := some k2c2 }
def k2c3 : Code := { maxStack := 4, maxLocals := 3, code := prog_20_method_4_code, exceptionTable := #[], attributes := #[] }
def k2m3 : Method := { name := "set", desc := "(II)V", sig := { parameters := [.int, .int], returnType := none }, accessFlags := 0, code := some k2c3 }
/-- com/example/tallymark/tallymark/SlotArray -/
def k2 : Class := { plain "com/example/tallymark/tallymark/SlotArray" (some 0) with
  accessFlags := 48
  interfaces := #[]
  cf := some (fileOf pool2 9 #[] #[{ accessFlags := 0, nameIndex := 7, descriptorIndex := 50, attributes := #[] }, { accessFlags := 0, nameIndex := 31, descriptorIndex := 32, attributes := #[] }, { accessFlags := 0, nameIndex := 54, descriptorIndex := 55, attributes := #[] }, { accessFlags := 0, nameIndex := 56, descriptorIndex := 50, attributes := #[] }] 48 4 #[] #[{ accessFlags := 24, nameIndex := 47, descriptorIndex := 48, attributes := #[] }, { accessFlags := 2, nameIndex := 14, descriptorIndex := 15, attributes := #[] }, { accessFlags := 2, nameIndex := 18, descriptorIndex := 19, attributes := #[] }])
  fields := #[{ name := "NARROW_CAPACITY", type := .int, accessFlags := 24, slot := 0, constantValue := 0 }, { name := "narrow", type := (.array .char), accessFlags := 2, slot := 0, constantValue := 0 }, { name := "wide", type := (.array .int), accessFlags := 2, slot := 1, constantValue := 0 }]
  methods := #[k2m0, k2m1, k2m2, k2m3]
  instanceTypes := #[(.array .char), (.array .int)]
  staticTypes := #[.int]
  resolved := Array.replicate 63 none
  statics := none }

def pool3 : Array CpInfo := pool [(1, u "java/lang/Cloneable"), (0, .class_ 1), (0, u "java/lang/Object"), (0, .class_ 3)] 3

/-- java/lang/Cloneable -/
def k3 : Class := { plain "java/lang/Cloneable" (some 0) with
  accessFlags := 1537
  interfaces := #[]
  cf := some (fileOf pool3 2 #[] #[] 1537 4 #[] #[])
  fields := #[]
  methods := #[]
  instanceTypes := #[]
  staticTypes := #[]
  resolved := Array.replicate 8 none
  statics := none }

def pool4 : Array CpInfo := pool [(1, u "java/io/Serializable"), (0, .class_ 1), (0, u "java/lang/Object"), (0, .class_ 3)] 3

/-- java/io/Serializable -/
def k4 : Class := { plain "java/io/Serializable" (some 0) with
  accessFlags := 1537
  interfaces := #[]
  cf := some (fileOf pool4 2 #[] #[] 1537 4 #[] #[])
  fields := #[]
  methods := #[]
  instanceTypes := #[]
  staticTypes := #[]
  resolved := Array.replicate 8 none
  statics := none }

/-- the primitive byte -/
def k5 : Class := { plain "byte" none with kind := .primitive 'B', accessFlags := 0x411 }
/-- [B -/
def k6 : Class := { plain "[B" (some 0) with kind := .array 5 .byte, interfaces := #[3, 4], accessFlags := 1041 }

/-- the primitive char -/
def k7 : Class := { plain "char" none with kind := .primitive 'C', accessFlags := 0x411 }
/-- [C -/
def k8 : Class := { plain "[C" (some 0) with kind := .array 7 .char, interfaces := #[3, 4], accessFlags := 1041 }

/-- the primitive int -/
def k9 : Class := { plain "int" none with kind := .primitive 'I', accessFlags := 0x411 }
/-- [I -/
def k10 : Class := { plain "[I" (some 0) with kind := .array 9 .int, interfaces := #[3, 4], accessFlags := 1041 }

def heap : Heap := #[]
def classes : Array Class := #[k0, k1, k2, k3, k4, k5, k6, k7, k8, k9, k10]
def interned : List (Array UInt16 × Addr) := []
def slotsUsed : Nat := 0
def theMethod : MethodId := ⟨1, 2⟩
def args0 : Array Value := #[.int 5, .int 5, .int 5, .int 5, .int 5]
def aboutOver (below : List Frame) : State where
  vm := { classes := classes, interned := interned.toArray }
  heap := heap
  slotsUsed := slotsUsed
  threads := #[{ frames := .invoking theMethod args0 :: below }]
def below0 : List Frame := [.native { method := ⟨0, 0⟩, args := #[] }]
def about1 : State := aboutOver below0
def p0 : Program := .bare "" "" ""
def e0 : Env := launch0.env 0 0 0
theorem w_frames : about1.frames = Frame.invoking theMethod args0 :: below0 := rfl
set_option maxRecDepth 65536 in
theorem w_args : argsFit about1.vm theMethod args0 = true := by decide +kernel
set_option maxRecDepth 65536 in
theorem w_heap : heapFits about1 = true := by decide +kernel
set_option maxRecDepth 65536 in
theorem w_runnable : about1.curStatus? = some .runnable := by decide +kernel
set_option maxRecDepth 65536 in
theorem w_alone : about1.alone = true := by decide +kernel
set_option maxRecDepth 65536 in
theorem w_named : about1.methodNamed? x = some theMethod := by decide +kernel
set_option maxRecDepth 65536 in
theorem w_hears : about1.hears theMethod below0 = true := by decide +kernel
set_option maxRecDepth 65536 in
theorem w_ripe : about1.ripe theMethod args0 below0 = true := by decide +kernel
theorem w_running : about1.status = .running := rfl
set_option maxRecDepth 65536 in
theorem w_room : about1.hasRoom e0.platform room_1 = true :=
  launch0.hasRoom_least _ room_1 (by decide +kernel) (by decide +kernel) (by decide +kernel) (by decide +kernel) (by decide +kernel) (by decide +kernel)
theorem allAtoms_all (ts : List Jvm.Cond) (a : Array Jvm.Value) (st : Jvm.State) : (allAtoms ts).before a st = ts.all (fun c => c.before a st) := by
  induction ts with
  | nil => rfl
  | cons c t ih =>
    show (Jvm.Cond.and c (allAtoms t)).before a st = _
    rw [Jvm.Cond.before_and, ih, List.all_cons]
def words1 : List Jvm.Cond := Jvm.Cond.code x code maxLocals ret :: tables_1
/-- a 'code' word, met by the world's own term for the bytes: nothing is compared byte by byte -/
theorem code_word {y : MethodName} {bytes : ByteArray} {mx : Nat} {rt : Option FieldType} {a : Array Value} {s : State} {m : MethodId} {meth : Method} {c : Code} (h1 : s.methodNamed? y = some m) (h2 : s.vm.method? m = some meth) (h3 : meth.code = some c) (h4 : c.code = bytes)
    (h5 : (c.maxLocals == mx && c.exceptionTable.isEmpty && decide (c.maxStack ≤ mostOperands) && decide (meth.sig.returnType = rt) && !meth.locks && decide (parseMethodDescriptor y.desc = some meth.sig)) = true) : (Jvm.Cond.code y bytes mx rt).before a s = true := by
  simp only [Bool.and_eq_true, beq_iff_eq, Bool.not_eq_true', decide_eq_true_eq] at h5
  obtain ⟨⟨⟨⟨⟨g1, g2⟩, g3⟩, g4⟩, g5⟩, g6⟩ := h5
  simp [Cond.before, Cond.holds, Cond.value, h1, h2, h3, h4, g1, g2, g3, g4, g5, g6]
def isCode : Jvm.Cond → Bool
  | .code _ _ _ _ => true
  | _ => false
theorem all_split {L : List Jvm.Cond} {P : Jvm.Cond → Bool} (h1 : L.all (fun c => isCode c || P c) = true) (h2 : ∀ c ∈ L.filter isCode, P c = true) : L.all P = true := by
  refine List.all_eq_true.mpr fun c hc => ?_
  have h := List.all_eq_true.mp h1 c hc
  rcases Bool.eq_false_or_eq_true (isCode c) with hi | hi
  · exact h2 c (List.mem_filter.mpr ⟨hc, hi⟩)
  · simpa [hi] using h
set_option maxRecDepth 65536 in
theorem w_c0 : (Jvm.Cond.code x code maxLocals ret).before args0 about1 = true := code_word (m := ⟨1, 2⟩) (meth := k1m2) (c := k1c2) (by decide +kernel) rfl rfl rfl (by decide +kernel)
set_option maxRecDepth 65536 in
theorem w_c1 : (Jvm.Cond.code ({ cls := "com/example/tallymark/tallymark/SlotArraySetPinLaw", name := "slotIn", desc := "(II)I" } : Jvm.MethodName) method_2_code (6 : Nat) (Option.some Jvm.ClassFile.FieldType.int)).before args0 about1 = true := code_word (m := ⟨1, 1⟩) (meth := k1m1) (c := k1c1) (by decide +kernel) rfl rfl rfl (by decide +kernel)
set_option maxRecDepth 65536 in
theorem w_c2 : (Jvm.Cond.code ({ cls := "com/example/tallymark/tallymark/SlotArray", name := "<init>", desc := "(II)V" } : Jvm.MethodName) prog_20_method_1_code (3 : Nat) (Option.none : Option Jvm.ClassFile.FieldType)).before args0 about1 = true := code_word (m := ⟨2, 0⟩) (meth := k2m0) (c := k2c0) (by decide +kernel) rfl rfl rfl (by decide +kernel)
set_option maxRecDepth 65536 in
theorem w_c3 : (Jvm.Cond.code ({ cls := "java/lang/Object", name := "<init>", desc := "()V" } : Jvm.MethodName) object_method_1_code (1 : Nat) (Option.none : Option Jvm.ClassFile.FieldType)).before args0 about1 = true := code_word (m := ⟨0, 0⟩) (meth := k0m0) (c := k0c0) (by decide +kernel) rfl rfl rfl (by decide +kernel)
set_option maxRecDepth 65536 in
theorem w_c4 : (Jvm.Cond.code ({ cls := "com/example/tallymark/tallymark/SlotArray", name := "set", desc := "(II)V" } : Jvm.MethodName) prog_20_method_4_code (3 : Nat) (Option.none : Option Jvm.ClassFile.FieldType)).before args0 about1 = true := code_word (m := ⟨2, 3⟩) (meth := k2m3) (c := k2c3) (by decide +kernel) rfl rfl rfl (by decide +kernel)
set_option maxRecDepth 65536 in
theorem w_c5 : (Jvm.Cond.code ({ cls := "com/example/tallymark/tallymark/SlotArray", name := "get", desc := "(I)I" } : Jvm.MethodName) prog_20_method_3_code (2 : Nat) (Option.some Jvm.ClassFile.FieldType.int)).before args0 about1 = true := code_word (m := ⟨2, 2⟩) (meth := k2m2) (c := k2c2) (by decide +kernel) rfl rfl rfl (by decide +kernel)
set_option maxRecDepth 65536 in
theorem w_c6 : (Jvm.Cond.code ({ cls := "com/example/tallymark/tallymark/SlotArray", name := "length", desc := "()I" } : Jvm.MethodName) prog_20_method_2_code (1 : Nat) (Option.some Jvm.ClassFile.FieldType.int)).before args0 about1 = true := code_word (m := ⟨2, 1⟩) (meth := k2m1) (c := k2c1) (by decide +kernel) rfl rfl rfl (by decide +kernel)
def codes1 : List Jvm.Cond := [Jvm.Cond.code x code maxLocals ret, Jvm.Cond.code ({ cls := "com/example/tallymark/tallymark/SlotArraySetPinLaw", name := "slotIn", desc := "(II)I" } : Jvm.MethodName) method_2_code (6 : Nat) (Option.some Jvm.ClassFile.FieldType.int), Jvm.Cond.code ({ cls := "com/example/tallymark/tallymark/SlotArray", name := "<init>", desc := "(II)V" } : Jvm.MethodName) prog_20_method_1_code (3 : Nat) (Option.none : Option Jvm.ClassFile.FieldType), Jvm.Cond.code ({ cls := "java/lang/Object", name := "<init>", desc := "()V" } : Jvm.MethodName) object_method_1_code (1 : Nat) (Option.none : Option Jvm.ClassFile.FieldType), Jvm.Cond.code ({ cls := "com/example/tallymark/tallymark/SlotArray", name := "set", desc := "(II)V" } : Jvm.MethodName) prog_20_method_4_code (3 : Nat) (Option.none : Option Jvm.ClassFile.FieldType), Jvm.Cond.code ({ cls := "com/example/tallymark/tallymark/SlotArray", name := "get", desc := "(I)I" } : Jvm.MethodName) prog_20_method_3_code (2 : Nat) (Option.some Jvm.ClassFile.FieldType.int), Jvm.Cond.code ({ cls := "com/example/tallymark/tallymark/SlotArray", name := "length", desc := "()I" } : Jvm.MethodName) prog_20_method_2_code (1 : Nat) (Option.some Jvm.ClassFile.FieldType.int)]
set_option maxRecDepth 65536 in
theorem codes_eq : words1.filter isCode = codes1 := rfl
theorem w_codes : ∀ c ∈ words1.filter isCode, c.before args0 about1 = true := by
  rw [codes_eq]
  intro c hc
  simp only [codes1, List.mem_cons, List.not_mem_nil, or_false] at hc
  rcases hc with rfl | rfl | rfl | rfl | rfl | rfl | rfl
  · exact w_c0
  · exact w_c1
  · exact w_c2
  · exact w_c3
  · exact w_c4
  · exact w_c5
  · exact w_c6
set_option maxRecDepth 65536 in
theorem w_t1 : (words1.take 24).all (fun c => isCode c || c.before args0 about1) = true := by decide +kernel
set_option maxRecDepth 65536 in
theorem w_t2 : (words1.drop 24).all (fun c => isCode c || c.before args0 about1) = true := by decide +kernel
theorem w_tables : (allAtoms (Jvm.Cond.code x code maxLocals ret :: tables_1)).before args0 about1 = true := by
  rw [allAtoms_all]
  show words1.all (fun c => c.before args0 about1) = true
  refine all_split ?_ w_codes
  rw [← List.take_append_drop 24 words1, List.all_append, w_t1, w_t2]
  rfl
set_option maxRecDepth 65536 in
theorem w_case : (Jvm.Cond.and given_1 narrow_1).before args0 about1 = true := by decide +kernel
theorem w_applies : (headSpec (Jvm.Cond.code x code maxLocals ret :: tables_1) room_1).applies x e0.platform about1 = true :=
  (Spec.applies_iff w_frames).mpr ⟨w_running, w_runnable, w_alone, w_named, w_hears, w_ripe, w_room, w_tables⟩
theorem atStart : AtStart classFile x code maxLocals ret World_1 tables_1 room_1 Calls_1 rest_1 Pre_1 launch0 p0 e0 about1 theMethod args0 below0 :=
  ⟨lists_1, trivial, launch0.admits_env _ _ _, launch0.least_env, fairChoices_fair.cas, fairChoices_fair.clock, w_frames, w_args, w_heap, w_applies, trivial, trivial, w_case⟩
end start1
theorem witness_1 : WitnessClaimed_1 := ⟨start1.p0, start1.e0, start1.about1, start1.theMethod, start1.args0, start1.below0, start1.atStart⟩
end Jvm.Pilot.@@N@@
