import JvmDerived
import JvmDerived.Pilot.@@N@@Statement
import JvmDerived.Pilot.@@N@@Code
set_option linter.unusedVariables false
set_option linter.unusedSimpArgs false
@@BLOCK:NumsL.lean.txt@@
namespace Jvm.Pilot.@@N@@
open Jvm Jvm.ClassFile Sem Op Lib Jvm.Free Jvm.Stand Jvm.LawKit Jvm.RoadKit Bundle Jvm.Pilot.@@N@@.Jvm.D

/-! the walk's own small kit: from the frame g over the state T the body comes to its end, with Φ -/
def own_Go (p : Program) (e : Env) (below : List Frame) (T : State) (g : JFrame) (Φ : Outcome → State → Prop) : Prop :=
  ∃ s₂ o, Steps p.tables e below (T.setTop g) s₂ ∧ s₂.status = .running ∧ Ended s₂ below o ∧ Φ o s₂
def own_Fin (s : State) (Q : Option Value → Heap → List Loc → Prop) (k j : Nat) (o : Outcome) (U' : State) : Prop :=
  ∃ v L, o = .returned v ∧ Q v U'.heap L ∧ FrameEnd s o U' L k j
theorem own_by {p : Program} {e : Env} {below : List Frame} {T T' : State} {g g' : JFrame} {Φ : Outcome → State → Prop}
    (h : ∀ t, Steps p.tables e below (T'.setTop g') t → Steps p.tables e below (T.setTop g) t) (k : own_Go p e below T' g' Φ) : own_Go p e below T g Φ := by
  obtain ⟨s₂, o, h1, h2⟩ := k
  exact ⟨s₂, o, h _ h1, h2⟩
theorem own_start {p : Program} {e : Env} {below : List Frame} {s T : State} {g g' : JFrame} {Q : Option Value → Heap → List Loc → Prop} {k j : Nat} (hg : g = g')
    (h : own_Go p e below T g' (own_Fin s Q k j)) : ∃ s₂ o, Steps p.tables e below (T.setTop g) s₂ ∧ s₂.status = .running ∧ Ended s₂ below o ∧ ∃ v L, o = .returned v ∧ Q v s₂.heap L ∧ FrameEnd s o s₂ L k j := by
  subst hg
  exact h
section OwnRet
variable {p : Program} {l : Launch} {e : Env} {R : Room} {s : State} {m : MethodId} {args : Array Value} {below : List Frame} {meth : Method} {c : Code} {T : State} {locs : List Loc} {cells slots : Nat} {Q : Option Value → Heap → List Loc → Prop} {k j pc : Nat} {Ls : Array Slot} {rest : List Value}
theorem own_retN {t : FieldType} (ht : t = .boolean ∨ t = .byte ∨ t = .char ∨ t = .short) (X : Stand p l e R s m args below meth c T locs cells slots) (hx : p.tables.exec = Jvm.exec) (hret : meth.sig.returnType = some t) (hlk : meth.locks = false) {z : Int32} (hd : decode c.code pc = .ok (.ireturn, 1))
    (hz : nar t z = z) (hk : cells ≤ k) (hj : slots ≤ j) (q : Q (some (.int z)) T.heap locs) : own_Go p e below T (mkF m pc Ls (.int z :: rest)) (own_Fin s Q k j) := by
  obtain ⟨fs, hr, hrun, hended, hW, hsame⟩ := X.leave (v := some (.int z)) (fun h => by rw [hret] at h; cases h)
  exact ⟨_, _, retN X hx hret ht hd (by rw [hz]; exact hr), hrun, hended, _, _, rfl, q, ⟨_, rfl⟩, hW, hsame.mono hk hj⟩
theorem own_retZ (X : Stand p l e R s m args below meth c T locs cells slots) (hx : p.tables.exec = Jvm.exec) (hret : meth.sig.returnType = some .boolean) (hlk : meth.locks = false) {z : Int32} (hd : decode c.code pc = .ok (.ireturn, 1))
    (hz : nar .boolean z = z) (hk : cells ≤ k) (hj : slots ≤ j) (q : Q (some (.int z)) T.heap locs) : own_Go p e below T (mkF m pc Ls (.int z :: rest)) (own_Fin s Q k j) := own_retN (Or.inl rfl) X hx hret hlk hd hz hk hj q
theorem own_retI (X : Stand p l e R s m args below meth c T locs cells slots) (hx : p.tables.exec = Jvm.exec) (hret : meth.sig.returnType = some .int) (hlk : meth.locks = false) {z : Int32} (hd : decode c.code pc = .ok (.ireturn, 1))
    (hk : cells ≤ k) (hj : slots ≤ j) (q : Q (some (.int z)) T.heap locs) : own_Go p e below T (mkF m pc Ls (.int z :: rest)) (own_Fin s Q k j) := by
  obtain ⟨fs, hr, hrun, hended, hW, hsame⟩ := X.leave (v := some (.int z)) (fun h => by rw [hret] at h; cases h)
  exact ⟨_, _, retOut X hx hret rfl (Or.inl ⟨rfl, Or.inl rfl, z, rfl⟩) hd hr, hrun, hended, _, _, rfl, q, ⟨_, rfl⟩, hW, hsame.mono hk hj⟩
theorem own_retJ (X : Stand p l e R s m args below meth c T locs cells slots) (hx : p.tables.exec = Jvm.exec) (hret : meth.sig.returnType = some .long) (hlk : meth.locks = false) {z : Int64} (hd : decode c.code pc = .ok (.lreturn, 1))
    (hk : cells ≤ k) (hj : slots ≤ j) (q : Q (some (.long z)) T.heap locs) : own_Go p e below T (mkF m pc Ls (.long z :: rest)) (own_Fin s Q k j) := by
  obtain ⟨fs, hr, hrun, hended, hW, hsame⟩ := X.leave (v := some (.long z)) (fun h => by rw [hret] at h; cases h)
  exact ⟨_, _, retOut X hx hret rfl (Or.inr (Or.inl ⟨rfl, rfl, z, rfl⟩)) hd hr, hrun, hended, _, _, rfl, q, ⟨_, rfl⟩, hW, hsame.mono hk hj⟩
theorem own_retA {t : FieldType} (X : Stand p l e R s m args below meth c T locs cells slots) (hx : p.tables.exec = Jvm.exec) (hret : meth.sig.returnType = some t) (hlk : meth.locks = false) {z : Value} (hd : decode c.code pc = .ok (.areturn, 1))
    (ht : t.isReference = true) (hz : z.isRef = true) (hn : narrow t z = z) (hk : cells ≤ k) (hj : slots ≤ j) (q : Q (some z) T.heap locs) : own_Go p e below T (mkF m pc Ls (z :: rest)) (own_Fin s Q k j) := by
  obtain ⟨fs, hr, hrun, hended, hW, hsame⟩ := X.leave (v := some z) (fun h => by rw [hret] at h; cases h)
  exact ⟨_, _, retOut X hx hret hn (Or.inr (Or.inr (Or.inr (Or.inr ⟨rfl, ht, hz⟩)))) hd hr, hrun, hended, _, _, rfl, q, ⟨_, rfl⟩, hW, hsame.mono hk hj⟩
theorem own_retV (X : Stand p l e R s m args below meth c T locs cells slots) (hx : p.tables.exec = Jvm.exec) (hret : meth.sig.returnType = none) (hlk : meth.locks = false) (hd : decode c.code pc = .ok (.return_, 1))
    (hk : cells ≤ k) (hj : slots ≤ j) (q : Q none T.heap locs) : own_Go p e below T (mkF m pc Ls []) (own_Fin s Q k j) := by
  obtain ⟨fs, hr, hrun, hended, hW, hsame⟩ := X.leave (v := none) (fun _ => rfl)
  exact ⟨_, _, X.returnOut hx hret hd hr, hrun, hended, _, _, rfl, q, ⟨_, rfl⟩, hW, hsame.mono hk hj⟩
theorem own_lrem_eq (x y : Int64) : x - x / y * y = x % y := Int64.toInt_inj.mp (by rw [Jvm.Kit.i64_rem, Int64.toInt_mod])
theorem own_lrem {g : JFrame} {target : State} (X : Stand p l e R s m args below meth c T locs cells slots) (hx : p.tables.exec = Jvm.exec) (hg : g.method = m) {x y : Int64} {rest : List Value} (hd : decode c.code g.pc = .ok (.lrem, 1)) (hs : g.stack = .long y :: .long x :: rest) (hy : y ≠ 0)
    (hr : Steps p.tables e below (T.setTop { g with pc := g.pc + 1, stack := .long (x % y) :: rest }) target) : Steps p.tables e below (T.setTop g) target :=
  XS.lrem X.here hx hg hd hs hy (by rw [own_lrem_eq x y]; exact hr)
end OwnRet
/-! an array: its length, and what each place holds -/
abbrev own_At (j : Int32) (k : Nat) : Prop := ¬ j < 0 ∧ j.toNatClampNeg = k
def own_upd (f : Nat → Value) (k : Nat) (v : Value) : Nat → Value := fun i => if i = k then v else f i
theorem own_upd_hit {f : Nat → Value} {k i : Nat} {v : Value} (h : i = k) : own_upd f k v i = v := if_pos h
theorem own_upd_miss {f : Nat → Value} {k i : Nat} {v : Value} (h : ¬ i = k) : own_upd f k v i = f i := if_neg h
def own_Av (Z : State) (h : Heap) (a : Addr) (ty : FieldType) (n : Nat) (f : Nat → Value) : Prop := ∃ c : Cell, Arr Z h a c ty ∧ c.slots.size = n ∧ ∀ i, i < n → c.slots[i]? = some (f i)
section OwnArr
variable {Z : State} {h h' : Heap} {a b : Addr} {ty : FieldType} {n k sl : Nat} {f : Nat → Value} {v : Value} {ws : List Addr}
theorem own_Av.ext (F : own_Av Z h a ty n f) (E : Ext h h') : own_Av Z h' a ty n f := by obtain ⟨c, A, r⟩ := F; exact ⟨c, A.ext E, r⟩
theorem own_Av.other (F : own_Av Z h b ty n f) (W : Wr h h' a sl v) (q : b ≠ a) : own_Av Z h' b ty n f := by obtain ⟨c, A, r⟩ := F; exact ⟨c, A.other W q, r⟩
theorem own_Av.keep (F : own_Av Z h a ty n f) (K : Keep h h' ws) (q : a ∉ ws) : own_Av Z h' a ty n f := by obtain ⟨c, A, r⟩ := F; exact ⟨c, ⟨K.2.1 a c A.1 q, A.2⟩, r⟩
theorem own_Av.lt (F : own_Av Z h a ty n f) : a < h.size := by obtain ⟨c, A, -⟩ := F; exact A.lt
theorem own_Av.ofnew {z : Int32} {kc : ClassId} {d : Value} (A : Arr Z h a (newA kc ty z) ty) (hn : z.toNatClampNeg = n) (hd : defaultValue ty = d) : own_Av Z h a ty n (fun _ => d) := by
  subst hn hd
  exact ⟨_, A, sz_new _ _ _, fun i hi => by simp [newA, hi]⟩
theorem own_Av.set (F : own_Av Z h a ty n f) (W : Wr h h' a k v) : own_Av Z h' a ty n (own_upd f k v) := by
  obtain ⟨c, A, S, H⟩ := F
  refine ⟨_, A.same W, by rw [sz_set]; exact S, fun i hi => ?_⟩
  by_cases q : i = k
  · subst q
    rw [own_upd_hit rfl]
    simp [Cell.setSlot, S, hi]
  · rw [own_upd_miss q, ← H i hi]
    exact Array.getElem?_setIfInBounds_ne fun u => q u.symm
theorem own_Av.cong {g : Nat → Value} {n' : Nat} (F : own_Av Z h a ty n f) (hn : n = n') (q : ∀ i, i < n → f i = g i) : own_Av Z h a ty n' g := by
  subst hn
  obtain ⟨c, A, S, H⟩ := F
  exact ⟨c, A, S, fun i hi => by rw [← q i hi]; exact H i hi⟩
theorem own_in {j : Int32} (hj : own_At j k) (hk : k < n) {c : Cell} (S : c.slots.size = n) : ¬ (j < 0 ∨ c.slots.size ≤ j.toNatClampNeg) := by
  intro q
  rcases q with q | q
  · exact hj.1 q
  · rw [hj.2, S] at q; omega
variable {p : Program} {l : Launch} {e : Env} {R : Room} {s : State} {m : MethodId} {args : Array Value} {below : List Frame} {meth : Method} {c : Code} {T : State} {locs : List Loc} {cells slots : Nat}
theorem own_ldI (X : Stand p l e R s m args below meth c T locs cells slots) (hx : p.tables.exec = Jvm.exec) (hZ : Z.Warmed39 s.vm) (eT : T.heap = h) (F : own_Av Z h a .int n f) {j : Int32} (hj : own_At j k) (hk : k < n) (hv : f k = v)
    {g : JFrame} (hg : g.method = m) {rest : List Value} (hs : g.stack = .int j :: .ref a :: rest) (hd : decode c.code g.pc = .ok (.iaload, 1)) (t : State)
    (hr : Steps p.tables e below (T.setTop { g with pc := g.pc + 1, stack := v :: rest }) t) : Steps p.tables e below (T.setTop g) t := by
  obtain ⟨cl, A, S, H⟩ := F
  exact X.iaload hx (by rw [eT]; exact A.1) (State.isArrayOf_alike hZ.alike A.2.1) A.2.2 (own_in hj hk S) (by rw [hj.2, H k hk, hv]) hg hs hd t hr
theorem own_ldJ (X : Stand p l e R s m args below meth c T locs cells slots) (hx : p.tables.exec = Jvm.exec) (hZ : Z.Warmed39 s.vm) (eT : T.heap = h) (F : own_Av Z h a .long n f) {j : Int32} (hj : own_At j k) (hk : k < n) (hv : f k = v)
    {g : JFrame} (hg : g.method = m) {rest : List Value} (hs : g.stack = .int j :: .ref a :: rest) (hd : decode c.code g.pc = .ok (.laload, 1)) (t : State)
    (hr : Steps p.tables e below (T.setTop { g with pc := g.pc + 1, stack := v :: rest }) t) : Steps p.tables e below (T.setTop g) t := by
  obtain ⟨cl, A, S, H⟩ := F
  exact X.laload hx (by rw [eT]; exact A.1) (State.isArrayOf_alike hZ.alike A.2.1) A.2.2 (own_in hj hk S) (by rw [hj.2, H k hk, hv]) hg hs hd t hr
theorem own_ldS (X : Stand p l e R s m args below meth c T locs cells slots) (hx : p.tables.exec = Jvm.exec) (hZ : Z.Warmed39 s.vm) (eT : T.heap = h) (F : own_Av Z h a .short n f) {j : Int32} (hj : own_At j k) (hk : k < n) (hv : f k = v)
    {g : JFrame} (hg : g.method = m) {rest : List Value} (hs : g.stack = .int j :: .ref a :: rest) (hd : decode c.code g.pc = .ok (.saload, 1)) (t : State)
    (hr : Steps p.tables e below (T.setTop { g with pc := g.pc + 1, stack := v :: rest }) t) : Steps p.tables e below (T.setTop g) t := by
  obtain ⟨cl, A, S, H⟩ := F
  exact X.saload hx (by rw [eT]; exact A.1) (State.isArrayOf_alike hZ.alike A.2.1) A.2.2 (own_in hj hk S) (by rw [hj.2, H k hk, hv]) hg hs hd t hr
theorem own_ldC (X : Stand p l e R s m args below meth c T locs cells slots) (hx : p.tables.exec = Jvm.exec) (hZ : Z.Warmed39 s.vm) (eT : T.heap = h) (F : own_Av Z h a .char n f) {j : Int32} (hj : own_At j k) (hk : k < n) (hv : f k = v)
    {g : JFrame} (hg : g.method = m) {rest : List Value} (hs : g.stack = .int j :: .ref a :: rest) (hd : decode c.code g.pc = .ok (.caload, 1)) (t : State)
    (hr : Steps p.tables e below (T.setTop { g with pc := g.pc + 1, stack := v :: rest }) t) : Steps p.tables e below (T.setTop g) t := by
  obtain ⟨cl, A, S, H⟩ := F
  exact X.caload hx (by rw [eT]; exact A.1) (State.isArrayOf_alike hZ.alike A.2.1) A.2.2 (own_in hj hk S) (by rw [hj.2, H k hk, hv]) hg hs hd t hr
theorem own_ldB (X : Stand p l e R s m args below meth c T locs cells slots) (hx : p.tables.exec = Jvm.exec) (hZ : Z.Warmed39 s.vm) (eT : T.heap = h) (F : own_Av Z h a .byte n f) {j : Int32} (hj : own_At j k) (hk : k < n) (hv : f k = v)
    {g : JFrame} (hg : g.method = m) {rest : List Value} (hs : g.stack = .int j :: .ref a :: rest) (hd : decode c.code g.pc = .ok (.baload, 1)) (t : State)
    (hr : Steps p.tables e below (T.setTop { g with pc := g.pc + 1, stack := v :: rest }) t) : Steps p.tables e below (T.setTop g) t := by
  obtain ⟨cl, A, S, H⟩ := F
  exact X.baloadBytes hx (by rw [eT]; exact A.1) (State.isArrayOf_alike hZ.alike A.2.1) A.2.2 (own_in hj hk S) (by rw [hj.2, H k hk, hv]) hg hs hd t hr
theorem own_ldZ (X : Stand p l e R s m args below meth c T locs cells slots) (hx : p.tables.exec = Jvm.exec) (hZ : Z.Warmed39 s.vm) (eT : T.heap = h) (F : own_Av Z h a .boolean n f) {j : Int32} (hj : own_At j k) (hk : k < n) (hv : f k = v)
    {g : JFrame} (hg : g.method = m) {rest : List Value} (hs : g.stack = .int j :: .ref a :: rest) (hd : decode c.code g.pc = .ok (.baload, 1)) (t : State)
    (hr : Steps p.tables e below (T.setTop { g with pc := g.pc + 1, stack := v :: rest }) t) : Steps p.tables e below (T.setTop g) t := by
  obtain ⟨cl, A, S, H⟩ := F
  exact X.baloadBooleans hx (by rw [eT]; exact A.1) (State.isArrayOf_alike hZ.alike A.2.1) A.2.2 (own_in hj hk S) (by rw [hj.2, H k hk, hv]) hg hs hd t hr
theorem own_len (X : Stand p l e R s m args below meth c T locs cells slots) (hx : p.tables.exec = Jvm.exec) (hZ : Z.Warmed39 s.vm) (eT : T.heap = h) (F : own_Av Z h a ty n f) {z : Int32} (hz : n.toInt32 = z)
    {g : JFrame} (hg : g.method = m) {rest : List Value} (hs : g.stack = .ref a :: rest) (hd : decode c.code g.pc = .ok (.arraylength, 1)) (t : State)
    (hr : Steps p.tables e below (T.setTop { g with pc := g.pc + 1, stack := .int z :: rest }) t) : Steps p.tables e below (T.setTop g) t := by
  obtain ⟨cl, A, S, H⟩ := F
  exact X.arraylength hx (by rw [eT]; exact A.1) (State.isArrayOf_alike hZ.alike A.2.1) hg hs hd t (by rw [S, hz]; exact hr)
theorem own_stI (X : Stand p l e R s m args below meth c T locs cells slots) (hx : p.tables.exec = Jvm.exec) (hZ : Z.Warmed39 s.vm) (eT : T.heap = h) (F : own_Av Z h a .int n f) {j x : Int32} (hj : own_At j k) (hk : k < n)
    {g : JFrame} (hg : g.method = m) {rest : List Value} (hs : g.stack = .int x :: .int j :: .ref a :: rest) (hd : decode c.code g.pc = .ok (.iastore, 1)) :
    ∃ T' h', Stand p l e R s m args below meth c T' (locs ++ [⟨a, k⟩]) cells slots ∧ T'.heap = h' ∧ Wr h h' a k (.int x) ∧ own_Av Z h' a .int n (own_upd f k (.int x)) ∧ ∀ target, Steps p.tables e below (T'.setTop { g with pc := g.pc + 1, stack := rest }) target → Steps p.tables e below (T.setTop g) target := by
  obtain ⟨cl, A, S, H⟩ := id F
  obtain ⟨T', h', X', e', W', st⟩ := stI X hx hZ eT A (own_in hj hk S) hg hs hd
  rw [hj.2] at X' W'
  exact ⟨T', h', X', e', W', F.set W', st⟩
theorem own_stJ (X : Stand p l e R s m args below meth c T locs cells slots) (hx : p.tables.exec = Jvm.exec) (hZ : Z.Warmed39 s.vm) (eT : T.heap = h) (F : own_Av Z h a .long n f) {j : Int32} {x : Int64} (hj : own_At j k) (hk : k < n)
    {g : JFrame} (hg : g.method = m) {rest : List Value} (hs : g.stack = .long x :: .int j :: .ref a :: rest) (hd : decode c.code g.pc = .ok (.lastore, 1)) :
    ∃ T' h', Stand p l e R s m args below meth c T' (locs ++ [⟨a, k⟩]) cells slots ∧ T'.heap = h' ∧ Wr h h' a k (.long x) ∧ own_Av Z h' a .long n (own_upd f k (.long x)) ∧ ∀ target, Steps p.tables e below (T'.setTop { g with pc := g.pc + 1, stack := rest }) target → Steps p.tables e below (T.setTop g) target := by
  obtain ⟨cl, A, S, H⟩ := id F
  obtain ⟨T', h', X', e', W', st⟩ := stJ X hx hZ eT A (own_in hj hk S) hg hs hd
  rw [hj.2] at X' W'
  exact ⟨T', h', X', e', W', F.set W', st⟩
theorem own_stB (X : Stand p l e R s m args below meth c T locs cells slots) (hx : p.tables.exec = Jvm.exec) (hZ : Z.Warmed39 s.vm) (eT : T.heap = h) (F : own_Av Z h a .byte n f) {j x : Int32} (hj : own_At j k) (hk : k < n)
    {g : JFrame} (hg : g.method = m) {rest : List Value} (hs : g.stack = .int x :: .int j :: .ref a :: rest) (hd : decode c.code g.pc = .ok (.bastore, 1)) :
    ∃ T' h', Stand p l e R s m args below meth c T' (locs ++ [⟨a, k⟩]) cells slots ∧ T'.heap = h' ∧ Wr h h' a k (.int x.toInt8.toInt32) ∧ own_Av Z h' a .byte n (own_upd f k (.int x.toInt8.toInt32)) ∧ ∀ target, Steps p.tables e below (T'.setTop { g with pc := g.pc + 1, stack := rest }) target → Steps p.tables e below (T.setTop g) target := by
  obtain ⟨cl, A, S, H⟩ := id F
  obtain ⟨T', h', X', e', W', st⟩ := stB X hx hZ eT A (own_in hj hk S) hg hs hd
  rw [hj.2] at X' W'
  exact ⟨T', h', X', e', W', F.set W', st⟩
theorem own_stZ (X : Stand p l e R s m args below meth c T locs cells slots) (hx : p.tables.exec = Jvm.exec) (hZ : Z.Warmed39 s.vm) (eT : T.heap = h) (F : own_Av Z h a .boolean n f) {j x : Int32} (hj : own_At j k) (hk : k < n)
    {g : JFrame} (hg : g.method = m) {rest : List Value} (hs : g.stack = .int x :: .int j :: .ref a :: rest) (hd : decode c.code g.pc = .ok (.bastore, 1)) :
    ∃ T' h', Stand p l e R s m args below meth c T' (locs ++ [⟨a, k⟩]) cells slots ∧ T'.heap = h' ∧ Wr h h' a k (.int (x &&& 1)) ∧ own_Av Z h' a .boolean n (own_upd f k (.int (x &&& 1))) ∧ ∀ target, Steps p.tables e below (T'.setTop { g with pc := g.pc + 1, stack := rest }) target → Steps p.tables e below (T.setTop g) target := by
  obtain ⟨cl, A, S, H⟩ := id F
  obtain ⟨T', h', X', e', W', st⟩ := stZ X hx hZ eT A (own_in hj hk S) hg hs hd
  rw [hj.2] at X' W'
  exact ⟨T', h', X', e', W', F.set W', st⟩
theorem own_stC (X : Stand p l e R s m args below meth c T locs cells slots) (hx : p.tables.exec = Jvm.exec) (hZ : Z.Warmed39 s.vm) (eT : T.heap = h) (F : own_Av Z h a .char n f) {j x : Int32} (hj : own_At j k) (hk : k < n)
    {g : JFrame} (hg : g.method = m) {rest : List Value} (hs : g.stack = .int x :: .int j :: .ref a :: rest) (hd : decode c.code g.pc = .ok (.castore, 1)) :
    ∃ T' h', Stand p l e R s m args below meth c T' (locs ++ [⟨a, k⟩]) cells slots ∧ T'.heap = h' ∧ Wr h h' a k (.int (nar .char x)) ∧ own_Av Z h' a .char n (own_upd f k (.int (nar .char x))) ∧ ∀ target, Steps p.tables e below (T'.setTop { g with pc := g.pc + 1, stack := rest }) target → Steps p.tables e below (T.setTop g) target := by
  obtain ⟨cl, A, S, H⟩ := id F
  obtain ⟨T', h', X', e', W', st⟩ := stC X hx hZ eT A (own_in hj hk S) hg hs hd
  rw [hj.2] at X' W'
  exact ⟨T', h', X', e', W', F.set W', st⟩
theorem own_stS (X : Stand p l e R s m args below meth c T locs cells slots) (hx : p.tables.exec = Jvm.exec) (hZ : Z.Warmed39 s.vm) (eT : T.heap = h) (F : own_Av Z h a .short n f) {j x : Int32} (hj : own_At j k) (hk : k < n)
    {g : JFrame} (hg : g.method = m) {rest : List Value} (hs : g.stack = .int x :: .int j :: .ref a :: rest) (hd : decode c.code g.pc = .ok (.sastore, 1)) :
    ∃ T' h', Stand p l e R s m args below meth c T' (locs ++ [⟨a, k⟩]) cells slots ∧ T'.heap = h' ∧ Wr h h' a k (.int (nar .short x)) ∧ own_Av Z h' a .short n (own_upd f k (.int (nar .short x))) ∧ ∀ target, Steps p.tables e below (T'.setTop { g with pc := g.pc + 1, stack := rest }) target → Steps p.tables e below (T.setTop g) target := by
  obtain ⟨cl, A, S, H⟩ := id F
  obtain ⟨T', h', X', e', W', st⟩ := stS X hx hZ eT A (own_in hj hk S) hg hs hd
  rw [hj.2] at X' W'
  exact ⟨T', h', X', e', W', F.set W', st⟩
end OwnArr
theorem own_selP {Z s : State} {a0 args : Array Value} {y : MethodName} {n : Nat} (hZ : Z.Warmed39 s.vm) (wi : (Cond.instantiable y.cls n).before a0 Z = true) (wp : (Cond.privateMethod y).before a0 Z = true) (wm : (Cond.instanceMethod y).before a0 Z = true)
    (hy : y.cls ≠ "java/lang/invoke/MethodHandle" ∧ y.cls ≠ "java/lang/invoke/VarHandle") : (Cond.selects y.cls y y).before args s = true := by
  have w : (Cond.instantiable y.cls n).before args s = true := mvT hZ wi
  obtain ⟨c, k, h1, h2, -, h4, -⟩ := Cond.instantiable_spec w
  exact Jvm.Stand.selects_self_of_private h1 h2 (Bool.or_eq_false_iff.mp h4).1 (Cond.privateMethod_at (mvP hZ wp (args := args))) (mvT hZ wm) hy
theorem own_narZ {x : Int32} (h : x &&& 1 = x) : narrow .boolean (.int x) = .int x := by
  show Value.int (x &&& 1) = _
  rw [h]
theorem own_fitZ {x : Int32} (h : x &&& 1 = x) : fits .boolean (.int x) = true := by
  have q := fits_nar_bool x
  rw [show nar .boolean x = x from h] at q
  exact q
theorem own_mono {p : Program} {e : Env} {below : List Frame} {s T : State} {g : JFrame} {Q Q' : Option Value → Heap → List Loc → Prop} {k j : Nat} (h : ∀ v h L, Q v h L → Q' v h L) (G : own_Go p e below T g (own_Fin s Q k j)) : own_Go p e below T g (own_Fin s Q' k j) := by
  obtain ⟨s₂, o, h1, h2, h3, v, L, h4, h5, h6⟩ := G
  exact ⟨s₂, o, h1, h2, h3, v, L, h4, h _ _ _ h5, h6⟩
theorem own_ofs (i : Nat) : Int32.ofNat i + (1 : Int32) = Int32.ofNat (i + 1) := (Int32.ofNat_add i 1).symm
theorem own_toI {i : Nat} (h : i < 2147483648) : (Int32.ofNat i).toInt = i := Int32.toInt_ofNat_small h
theorem own_ix {i : Nat} (h : i < 2147483648) : own_At (Int32.ofNat i) i := by
  have e := own_toI h
  refine ⟨?_, ?_⟩
  · rw [Int32.lt_iff_toInt_lt, e, show (0 : Int32).toInt = 0 from by decide]; omega
  · simp only [Int32.toNatClampNeg, e]; omega
theorem own_oflt {i n : Nat} (hi : i < 2147483648) (hn : n < 2147483648) : Int32.ofNat i < Int32.ofNat n ↔ i < n := by
  rw [Int32.lt_iff_toInt_lt, own_toI hi, own_toI hn]; omega
theorem own_ofeq {i n : Nat} (hi : i < 2147483648) (hn : n < 2147483648) : Int32.ofNat i = Int32.ofNat n ↔ i = n := by
  rw [← Int32.toInt_inj, own_toI hi, own_toI hn]; omega
def own_fl (F : Nat → Int32) (i : Nat) (g : Nat → Value) (j : Nat) : Value := if j < i then .int (F j) else g j
theorem own_fl_up (F : Nat → Int32) (i : Nat) (g : Nat → Value) : ∀ j, own_upd (own_fl F i g) i (.int (F i)) j = own_fl F (i + 1) g j := fun j => by
  unfold own_fl
  by_cases q : j = i
  · subst q; rw [own_upd_hit rfl, if_pos (by omega)]
  · rw [own_upd_miss q]
    by_cases q2 : j < i
    · rw [if_pos q2, if_pos (by omega)]
    · rw [if_neg q2, if_neg (by omega)]
theorem own_fl0 (F : Nat → Int32) (g : Nat → Value) : ∀ j, g j = own_fl F 0 g j := fun j => by unfold own_fl; rw [if_neg (by omega)]
theorem own_fl_in {F : Nat → Int32} {i j : Nat} {g : Nat → Value} (h : j < i) : own_fl F i g j = .int (F j) := if_pos h
theorem own_fl_out {F : Nat → Int32} {i j : Nat} {g : Nat → Value} (h : ¬ j < i) : own_fl F i g j = g j := if_neg h

/-! single steps over own_Go -/
theorem own_s_iadd {p : Program} {e : Env} {below : List Frame} {T : State} {m : MethodId} {c : Code} {Φ : Outcome → State → Prop} {pc : Nat} {L : Array Slot} {S : List Value} (h : At T m c below) (hx : p.tables.exec = Jvm.exec) {x y : Int32} (hd : decode c.code pc = .ok (.iadd, 1)) (G : own_Go p e below T (mkF m (pc + 1) L (.int (x + y) :: S)) Φ) : own_Go p e below T (mkF m pc L (.int y :: .int x :: S)) Φ := own_by (fun t k => XS.iadd h hx rfl hd rfl k) G
theorem own_s_isub {p : Program} {e : Env} {below : List Frame} {T : State} {m : MethodId} {c : Code} {Φ : Outcome → State → Prop} {pc : Nat} {L : Array Slot} {S : List Value} (h : At T m c below) (hx : p.tables.exec = Jvm.exec) {x y : Int32} (hd : decode c.code pc = .ok (.isub, 1)) (G : own_Go p e below T (mkF m (pc + 1) L (.int (x - y) :: S)) Φ) : own_Go p e below T (mkF m pc L (.int y :: .int x :: S)) Φ := own_by (fun t k => XS.isub h hx rfl hd rfl k) G
theorem own_s_imul {p : Program} {e : Env} {below : List Frame} {T : State} {m : MethodId} {c : Code} {Φ : Outcome → State → Prop} {pc : Nat} {L : Array Slot} {S : List Value} (h : At T m c below) (hx : p.tables.exec = Jvm.exec) {x y : Int32} (hd : decode c.code pc = .ok (.imul, 1)) (G : own_Go p e below T (mkF m (pc + 1) L (.int (x * y) :: S)) Φ) : own_Go p e below T (mkF m pc L (.int y :: .int x :: S)) Φ := own_by (fun t k => XS.imul h hx rfl hd rfl k) G
theorem own_s_iand {p : Program} {e : Env} {below : List Frame} {T : State} {m : MethodId} {c : Code} {Φ : Outcome → State → Prop} {pc : Nat} {L : Array Slot} {S : List Value} (h : At T m c below) (hx : p.tables.exec = Jvm.exec) {x y : Int32} (hd : decode c.code pc = .ok (.iand, 1)) (G : own_Go p e below T (mkF m (pc + 1) L (.int (x &&& y) :: S)) Φ) : own_Go p e below T (mkF m pc L (.int y :: .int x :: S)) Φ := own_by (fun t k => XS.iand h hx rfl hd rfl k) G
theorem own_s_ior {p : Program} {e : Env} {below : List Frame} {T : State} {m : MethodId} {c : Code} {Φ : Outcome → State → Prop} {pc : Nat} {L : Array Slot} {S : List Value} (h : At T m c below) (hx : p.tables.exec = Jvm.exec) {x y : Int32} (hd : decode c.code pc = .ok (.ior, 1)) (G : own_Go p e below T (mkF m (pc + 1) L (.int (x ||| y) :: S)) Φ) : own_Go p e below T (mkF m pc L (.int y :: .int x :: S)) Φ := own_by (fun t k => XS.ior h hx rfl hd rfl k) G
theorem own_s_ixor {p : Program} {e : Env} {below : List Frame} {T : State} {m : MethodId} {c : Code} {Φ : Outcome → State → Prop} {pc : Nat} {L : Array Slot} {S : List Value} (h : At T m c below) (hx : p.tables.exec = Jvm.exec) {x y : Int32} (hd : decode c.code pc = .ok (.ixor, 1)) (G : own_Go p e below T (mkF m (pc + 1) L (.int (x ^^^ y) :: S)) Φ) : own_Go p e below T (mkF m pc L (.int y :: .int x :: S)) Φ := own_by (fun t k => XS.ixor h hx rfl hd rfl k) G
theorem own_s_ladd {p : Program} {e : Env} {below : List Frame} {T : State} {m : MethodId} {c : Code} {Φ : Outcome → State → Prop} {pc : Nat} {L : Array Slot} {S : List Value} (h : At T m c below) (hx : p.tables.exec = Jvm.exec) {x y : Int64} (hd : decode c.code pc = .ok (.ladd, 1)) (G : own_Go p e below T (mkF m (pc + 1) L (.long (x + y) :: S)) Φ) : own_Go p e below T (mkF m pc L (.long y :: .long x :: S)) Φ := own_by (fun t k => XS.ladd h hx rfl hd rfl k) G
theorem own_s_lsub {p : Program} {e : Env} {below : List Frame} {T : State} {m : MethodId} {c : Code} {Φ : Outcome → State → Prop} {pc : Nat} {L : Array Slot} {S : List Value} (h : At T m c below) (hx : p.tables.exec = Jvm.exec) {x y : Int64} (hd : decode c.code pc = .ok (.lsub, 1)) (G : own_Go p e below T (mkF m (pc + 1) L (.long (x - y) :: S)) Φ) : own_Go p e below T (mkF m pc L (.long y :: .long x :: S)) Φ := own_by (fun t k => XS.lsub h hx rfl hd rfl k) G
theorem own_s_lmul {p : Program} {e : Env} {below : List Frame} {T : State} {m : MethodId} {c : Code} {Φ : Outcome → State → Prop} {pc : Nat} {L : Array Slot} {S : List Value} (h : At T m c below) (hx : p.tables.exec = Jvm.exec) {x y : Int64} (hd : decode c.code pc = .ok (.lmul, 1)) (G : own_Go p e below T (mkF m (pc + 1) L (.long (x * y) :: S)) Φ) : own_Go p e below T (mkF m pc L (.long y :: .long x :: S)) Φ := own_by (fun t k => XS.lmul h hx rfl hd rfl k) G
theorem own_s_land {p : Program} {e : Env} {below : List Frame} {T : State} {m : MethodId} {c : Code} {Φ : Outcome → State → Prop} {pc : Nat} {L : Array Slot} {S : List Value} (h : At T m c below) (hx : p.tables.exec = Jvm.exec) {x y : Int64} (hd : decode c.code pc = .ok (.land, 1)) (G : own_Go p e below T (mkF m (pc + 1) L (.long (x &&& y) :: S)) Φ) : own_Go p e below T (mkF m pc L (.long y :: .long x :: S)) Φ := own_by (fun t k => XS.land h hx rfl hd rfl k) G
theorem own_s_lor {p : Program} {e : Env} {below : List Frame} {T : State} {m : MethodId} {c : Code} {Φ : Outcome → State → Prop} {pc : Nat} {L : Array Slot} {S : List Value} (h : At T m c below) (hx : p.tables.exec = Jvm.exec) {x y : Int64} (hd : decode c.code pc = .ok (.lor, 1)) (G : own_Go p e below T (mkF m (pc + 1) L (.long (x ||| y) :: S)) Φ) : own_Go p e below T (mkF m pc L (.long y :: .long x :: S)) Φ := own_by (fun t k => XS.lor h hx rfl hd rfl k) G
theorem own_s_lxor {p : Program} {e : Env} {below : List Frame} {T : State} {m : MethodId} {c : Code} {Φ : Outcome → State → Prop} {pc : Nat} {L : Array Slot} {S : List Value} (h : At T m c below) (hx : p.tables.exec = Jvm.exec) {x y : Int64} (hd : decode c.code pc = .ok (.lxor, 1)) (G : own_Go p e below T (mkF m (pc + 1) L (.long (x ^^^ y) :: S)) Φ) : own_Go p e below T (mkF m pc L (.long y :: .long x :: S)) Φ := own_by (fun t k => XS.lxor h hx rfl hd rfl k) G
theorem own_s_ishl {p : Program} {e : Env} {below : List Frame} {T : State} {m : MethodId} {c : Code} {Φ : Outcome → State → Prop} {pc : Nat} {L : Array Slot} {S : List Value} (h : At T m c below) (hx : p.tables.exec = Jvm.exec) {x y : Int32} (hd : decode c.code pc = .ok (.ishl, 1)) (G : own_Go p e below T (mkF m (pc + 1) L (.int (x <<< (y &&& 31)) :: S)) Φ) : own_Go p e below T (mkF m pc L (.int y :: .int x :: S)) Φ := own_by (fun t k => XS.ishl h hx rfl hd rfl k) G
theorem own_s_ishr {p : Program} {e : Env} {below : List Frame} {T : State} {m : MethodId} {c : Code} {Φ : Outcome → State → Prop} {pc : Nat} {L : Array Slot} {S : List Value} (h : At T m c below) (hx : p.tables.exec = Jvm.exec) {x y : Int32} (hd : decode c.code pc = .ok (.ishr, 1)) (G : own_Go p e below T (mkF m (pc + 1) L (.int (x >>> (y &&& 31)) :: S)) Φ) : own_Go p e below T (mkF m pc L (.int y :: .int x :: S)) Φ := own_by (fun t k => XS.ishr h hx rfl hd rfl k) G
theorem own_s_iushr {p : Program} {e : Env} {below : List Frame} {T : State} {m : MethodId} {c : Code} {Φ : Outcome → State → Prop} {pc : Nat} {L : Array Slot} {S : List Value} (h : At T m c below) (hx : p.tables.exec = Jvm.exec) {x y : Int32} (hd : decode c.code pc = .ok (.iushr, 1)) (G : own_Go p e below T (mkF m (pc + 1) L (.int ((x.toUInt32 >>> (y &&& 31).toUInt32).toInt32) :: S)) Φ) : own_Go p e below T (mkF m pc L (.int y :: .int x :: S)) Φ := own_by (fun t k => XS.iushr h hx rfl hd rfl k) G
theorem own_s_lshl {p : Program} {e : Env} {below : List Frame} {T : State} {m : MethodId} {c : Code} {Φ : Outcome → State → Prop} {pc : Nat} {L : Array Slot} {S : List Value} (h : At T m c below) (hx : p.tables.exec = Jvm.exec) {x : Int64} {y : Int32} (hd : decode c.code pc = .ok (.lshl, 1)) (G : own_Go p e below T (mkF m (pc + 1) L (.long (x <<< (y &&& 0x3f).toInt64) :: S)) Φ) : own_Go p e below T (mkF m pc L (.int y :: .long x :: S)) Φ := own_by (fun t k => XS.lshl h hx rfl hd rfl k) G
theorem own_s_lshr {p : Program} {e : Env} {below : List Frame} {T : State} {m : MethodId} {c : Code} {Φ : Outcome → State → Prop} {pc : Nat} {L : Array Slot} {S : List Value} (h : At T m c below) (hx : p.tables.exec = Jvm.exec) {x : Int64} {y : Int32} (hd : decode c.code pc = .ok (.lshr, 1)) (G : own_Go p e below T (mkF m (pc + 1) L (.long (x >>> (y &&& 0x3f).toInt64) :: S)) Φ) : own_Go p e below T (mkF m pc L (.int y :: .long x :: S)) Φ := own_by (fun t k => XS.lshr h hx rfl hd rfl k) G
theorem own_s_lushr {p : Program} {e : Env} {below : List Frame} {T : State} {m : MethodId} {c : Code} {Φ : Outcome → State → Prop} {pc : Nat} {L : Array Slot} {S : List Value} (h : At T m c below) (hx : p.tables.exec = Jvm.exec) {x : Int64} {y : Int32} (hd : decode c.code pc = .ok (.lushr, 1)) (G : own_Go p e below T (mkF m (pc + 1) L (.long ((x.toUInt64 >>> (y &&& 0x3f).toInt64.toUInt64).toInt64) :: S)) Φ) : own_Go p e below T (mkF m pc L (.int y :: .long x :: S)) Φ := own_by (fun t k => XS.lushr h hx rfl hd rfl k) G
theorem own_s_ineg {p : Program} {e : Env} {below : List Frame} {T : State} {m : MethodId} {c : Code} {Φ : Outcome → State → Prop} {pc : Nat} {L : Array Slot} {S : List Value} (h : At T m c below) (hx : p.tables.exec = Jvm.exec) {x : Int32} (hd : decode c.code pc = .ok (.ineg, 1)) (G : own_Go p e below T (mkF m (pc + 1) L (.int (-x) :: S)) Φ) : own_Go p e below T (mkF m pc L (.int x :: S)) Φ := own_by (fun t k => XS.ineg h hx rfl hd rfl k) G
theorem own_s_lneg {p : Program} {e : Env} {below : List Frame} {T : State} {m : MethodId} {c : Code} {Φ : Outcome → State → Prop} {pc : Nat} {L : Array Slot} {S : List Value} (h : At T m c below) (hx : p.tables.exec = Jvm.exec) {x : Int64} (hd : decode c.code pc = .ok (.lneg, 1)) (G : own_Go p e below T (mkF m (pc + 1) L (.long (-x) :: S)) Φ) : own_Go p e below T (mkF m pc L (.long x :: S)) Φ := own_by (fun t k => XS.lneg h hx rfl hd rfl k) G
theorem own_s_i2l {p : Program} {e : Env} {below : List Frame} {T : State} {m : MethodId} {c : Code} {Φ : Outcome → State → Prop} {pc : Nat} {L : Array Slot} {S : List Value} (h : At T m c below) (hx : p.tables.exec = Jvm.exec) {x : Int32} (hd : decode c.code pc = .ok (.i2l, 1)) (G : own_Go p e below T (mkF m (pc + 1) L (.long (x.toInt64) :: S)) Φ) : own_Go p e below T (mkF m pc L (.int x :: S)) Φ := own_by (fun t k => XS.i2l h hx rfl hd rfl k) G
theorem own_s_l2i {p : Program} {e : Env} {below : List Frame} {T : State} {m : MethodId} {c : Code} {Φ : Outcome → State → Prop} {pc : Nat} {L : Array Slot} {S : List Value} (h : At T m c below) (hx : p.tables.exec = Jvm.exec) {x : Int64} (hd : decode c.code pc = .ok (.l2i, 1)) (G : own_Go p e below T (mkF m (pc + 1) L (.int (x.toInt32) :: S)) Φ) : own_Go p e below T (mkF m pc L (.long x :: S)) Φ := own_by (fun t k => XS.l2i h hx rfl hd rfl k) G
theorem own_s_i2b {p : Program} {e : Env} {below : List Frame} {T : State} {m : MethodId} {c : Code} {Φ : Outcome → State → Prop} {pc : Nat} {L : Array Slot} {S : List Value} (h : At T m c below) (hx : p.tables.exec = Jvm.exec) {x : Int32} (hd : decode c.code pc = .ok (.i2b, 1)) (G : own_Go p e below T (mkF m (pc + 1) L (.int (x.toInt8.toInt32) :: S)) Φ) : own_Go p e below T (mkF m pc L (.int x :: S)) Φ := own_by (fun t k => XS.i2b h hx rfl hd rfl k) G
theorem own_s_i2s {p : Program} {e : Env} {below : List Frame} {T : State} {m : MethodId} {c : Code} {Φ : Outcome → State → Prop} {pc : Nat} {L : Array Slot} {S : List Value} (h : At T m c below) (hx : p.tables.exec = Jvm.exec) {x : Int32} (hd : decode c.code pc = .ok (.i2s, 1)) (G : own_Go p e below T (mkF m (pc + 1) L (.int (x.toInt16.toInt32) :: S)) Φ) : own_Go p e below T (mkF m pc L (.int x :: S)) Φ := own_by (fun t k => XS.i2s h hx rfl hd rfl k) G
theorem own_s_i2c {p : Program} {e : Env} {below : List Frame} {T : State} {m : MethodId} {c : Code} {Φ : Outcome → State → Prop} {pc : Nat} {L : Array Slot} {S : List Value} (h : At T m c below) (hx : p.tables.exec = Jvm.exec) {x : Int32} (hd : decode c.code pc = .ok (.i2c, 1)) (G : own_Go p e below T (mkF m (pc + 1) L (.int (x.toUInt32.toUInt16.toUInt32.toInt32) :: S)) Φ) : own_Go p e below T (mkF m pc L (.int x :: S)) Φ := own_by (fun t k => XS.i2c h hx rfl hd rfl k) G
theorem own_s_iloadN {p : Program} {e : Env} {below : List Frame} {T : State} {m : MethodId} {c : Code} {Φ : Outcome → State → Prop} {pc : Nat} {L : Array Slot} {S : List Value} (h : At T m c below) (hx : p.tables.exec = Jvm.exec) {i : Fin 4} {v : Int32} (hd : decode c.code pc = .ok (.iload_n i, 1)) (hl : L[i.val]? = some (.val (.int v))) (G : own_Go p e below T (mkF m (pc + 1) L (.int v :: S)) Φ) : own_Go p e below T (mkF m pc L S) Φ := own_by (fun t k => XS.iloadN h hx rfl hd hl k) G
theorem own_s_iload {p : Program} {e : Env} {below : List Frame} {T : State} {m : MethodId} {c : Code} {Φ : Outcome → State → Prop} {pc : Nat} {L : Array Slot} {S : List Value} (h : At T m c below) (hx : p.tables.exec = Jvm.exec) {i : Nat} {v : Int32} (hd : decode c.code pc = .ok (.iload i, 2)) (hl : L[i]? = some (.val (.int v))) (G : own_Go p e below T (mkF m (pc + 2) L (.int v :: S)) Φ) : own_Go p e below T (mkF m pc L S) Φ := own_by (fun t k => XS.iload h hx rfl hd hl k) G
theorem own_s_lloadN {p : Program} {e : Env} {below : List Frame} {T : State} {m : MethodId} {c : Code} {Φ : Outcome → State → Prop} {pc : Nat} {L : Array Slot} {S : List Value} (h : At T m c below) (hx : p.tables.exec = Jvm.exec) {i : Fin 4} {v : Int64} (hd : decode c.code pc = .ok (.lload_n i, 1)) (hl : L[i.val]? = some (.val (.long v))) (G : own_Go p e below T (mkF m (pc + 1) L (.long v :: S)) Φ) : own_Go p e below T (mkF m pc L S) Φ := own_by (fun t k => XS.lloadN h hx rfl hd hl k) G
theorem own_s_lload {p : Program} {e : Env} {below : List Frame} {T : State} {m : MethodId} {c : Code} {Φ : Outcome → State → Prop} {pc : Nat} {L : Array Slot} {S : List Value} (h : At T m c below) (hx : p.tables.exec = Jvm.exec) {i : Nat} {v : Int64} (hd : decode c.code pc = .ok (.lload i, 2)) (hl : L[i]? = some (.val (.long v))) (G : own_Go p e below T (mkF m (pc + 2) L (.long v :: S)) Φ) : own_Go p e below T (mkF m pc L S) Φ := own_by (fun t k => XS.lload h hx rfl hd hl k) G
theorem own_s_aloadN {p : Program} {e : Env} {below : List Frame} {T : State} {m : MethodId} {c : Code} {Φ : Outcome → State → Prop} {pc : Nat} {L : Array Slot} {S : List Value} (h : At T m c below) (hx : p.tables.exec = Jvm.exec) {i : Fin 4} {v : Value} (hd : decode c.code pc = .ok (.aload_n i, 1)) (hl : L[i.val]? = some (.val v)) (hv : v.isRef = true) (G : own_Go p e below T (mkF m (pc + 1) L (v :: S)) Φ) : own_Go p e below T (mkF m pc L S) Φ := own_by (fun t k => XS.aloadN h hx rfl hd hl hv k) G
theorem own_s_aload {p : Program} {e : Env} {below : List Frame} {T : State} {m : MethodId} {c : Code} {Φ : Outcome → State → Prop} {pc : Nat} {L : Array Slot} {S : List Value} (h : At T m c below) (hx : p.tables.exec = Jvm.exec) {i : Nat} {v : Value} (hd : decode c.code pc = .ok (.aload i, 2)) (hl : L[i]? = some (.val v)) (hv : v.isRef = true) (G : own_Go p e below T (mkF m (pc + 2) L (v :: S)) Φ) : own_Go p e below T (mkF m pc L S) Φ := own_by (fun t k => XS.aload h hx rfl hd hl hv k) G
theorem own_s_istoreN {p : Program} {e : Env} {below : List Frame} {T : State} {m : MethodId} {c : Code} {Φ : Outcome → State → Prop} {pc : Nat} {L : Array Slot} {S : List Value} (h : At T m c below) (hx : p.tables.exec = Jvm.exec) {i : Fin 4} {v : Int32} (L' : Array Slot) (hd : decode c.code pc = .ok (.istore_n i, 1)) (hl : storeLocals L i.val (.int v) = some L') (G : own_Go p e below T (mkF m (pc + 1) L' S) Φ) : own_Go p e below T (mkF m pc L (.int v :: S)) Φ := own_by (fun t k => XS.istoreN h hx rfl hd rfl hl k) G
theorem own_s_istore {p : Program} {e : Env} {below : List Frame} {T : State} {m : MethodId} {c : Code} {Φ : Outcome → State → Prop} {pc : Nat} {L : Array Slot} {S : List Value} (h : At T m c below) (hx : p.tables.exec = Jvm.exec) {i : Nat} {v : Int32} (L' : Array Slot) (hd : decode c.code pc = .ok (.istore i, 2)) (hl : storeLocals L i (.int v) = some L') (G : own_Go p e below T (mkF m (pc + 2) L' S) Φ) : own_Go p e below T (mkF m pc L (.int v :: S)) Φ := own_by (fun t k => XS.istore h hx rfl hd rfl hl k) G
theorem own_s_lstoreN {p : Program} {e : Env} {below : List Frame} {T : State} {m : MethodId} {c : Code} {Φ : Outcome → State → Prop} {pc : Nat} {L : Array Slot} {S : List Value} (h : At T m c below) (hx : p.tables.exec = Jvm.exec) {i : Fin 4} {v : Int64} (L' : Array Slot) (hd : decode c.code pc = .ok (.lstore_n i, 1)) (hl : storeLocals L i.val (.long v) = some L') (G : own_Go p e below T (mkF m (pc + 1) L' S) Φ) : own_Go p e below T (mkF m pc L (.long v :: S)) Φ := own_by (fun t k => XS.lstoreN h hx rfl hd rfl hl k) G
theorem own_s_lstore {p : Program} {e : Env} {below : List Frame} {T : State} {m : MethodId} {c : Code} {Φ : Outcome → State → Prop} {pc : Nat} {L : Array Slot} {S : List Value} (h : At T m c below) (hx : p.tables.exec = Jvm.exec) {i : Nat} {v : Int64} (L' : Array Slot) (hd : decode c.code pc = .ok (.lstore i, 2)) (hl : storeLocals L i (.long v) = some L') (G : own_Go p e below T (mkF m (pc + 2) L' S) Φ) : own_Go p e below T (mkF m pc L (.long v :: S)) Φ := own_by (fun t k => XS.lstore h hx rfl hd rfl hl k) G
theorem own_s_astoreN {p : Program} {e : Env} {below : List Frame} {T : State} {m : MethodId} {c : Code} {Φ : Outcome → State → Prop} {pc : Nat} {L : Array Slot} {S : List Value} (h : At T m c below) (hx : p.tables.exec = Jvm.exec) {i : Fin 4} {v : Value} (L' : Array Slot) (hd : decode c.code pc = .ok (.astore_n i, 1)) (hv : v.isRef = true) (hl : storeLocals L i.val v = some L') (G : own_Go p e below T (mkF m (pc + 1) L' S) Φ) : own_Go p e below T (mkF m pc L (v :: S)) Φ := own_by (fun t k => XS.astoreN h hx rfl hd rfl hv hl k) G
theorem own_s_astore {p : Program} {e : Env} {below : List Frame} {T : State} {m : MethodId} {c : Code} {Φ : Outcome → State → Prop} {pc : Nat} {L : Array Slot} {S : List Value} (h : At T m c below) (hx : p.tables.exec = Jvm.exec) {i : Nat} {v : Value} (L' : Array Slot) (hd : decode c.code pc = .ok (.astore i, 2)) (hv : v.isRef = true) (hl : storeLocals L i v = some L') (G : own_Go p e below T (mkF m (pc + 2) L' S) Φ) : own_Go p e below T (mkF m pc L (v :: S)) Φ := own_by (fun t k => XS.astore h hx rfl hd rfl hv hl k) G
theorem own_s_iconst {p : Program} {e : Env} {below : List Frame} {T : State} {m : MethodId} {c : Code} {Φ : Outcome → State → Prop} {pc : Nat} {L : Array Slot} {S : List Value} (h : At T m c below) (hx : p.tables.exec = Jvm.exec) {i : Int} (v : Int32) (hd : decode c.code pc = .ok (.iconst i, 1)) (hv : Int32.ofInt i = v) (G : own_Go p e below T (mkF m (pc + 1) L (.int v :: S)) Φ) : own_Go p e below T (mkF m pc L S) Φ := own_by (fun t k => XS.iconst h hx rfl hd (by rw [hv]; exact k)) G
theorem own_s_bipush {p : Program} {e : Env} {below : List Frame} {T : State} {m : MethodId} {c : Code} {Φ : Outcome → State → Prop} {pc : Nat} {L : Array Slot} {S : List Value} (h : At T m c below) (hx : p.tables.exec = Jvm.exec) {i : Int} (v : Int32) (hd : decode c.code pc = .ok (.bipush i, 2)) (hv : (Int8.ofInt i).toInt32 = v) (G : own_Go p e below T (mkF m (pc + 2) L (.int v :: S)) Φ) : own_Go p e below T (mkF m pc L S) Φ := own_by (fun t k => XS.bipush h hx rfl hd (by rw [hv]; exact k)) G
theorem own_s_sipush {p : Program} {e : Env} {below : List Frame} {T : State} {m : MethodId} {c : Code} {Φ : Outcome → State → Prop} {pc : Nat} {L : Array Slot} {S : List Value} (h : At T m c below) (hx : p.tables.exec = Jvm.exec) {i : Int} (v : Int32) (hd : decode c.code pc = .ok (.sipush i, 3)) (hv : (Int16.ofInt i).toInt32 = v) (G : own_Go p e below T (mkF m (pc + 3) L (.int v :: S)) Φ) : own_Go p e below T (mkF m pc L S) Φ := own_by (fun t k => XS.sipush h hx rfl hd (by rw [hv]; exact k)) G
theorem own_s_lconst {p : Program} {e : Env} {below : List Frame} {T : State} {m : MethodId} {c : Code} {Φ : Outcome → State → Prop} {pc : Nat} {L : Array Slot} {S : List Value} (h : At T m c below) (hx : p.tables.exec = Jvm.exec) {i : Fin 2} (v : Int64) (hd : decode c.code pc = .ok (.lconst i, 1)) (hv : Int64.ofNat i = v) (G : own_Go p e below T (mkF m (pc + 1) L (.long v :: S)) Φ) : own_Go p e below T (mkF m pc L S) Φ := own_by (fun t k => XS.lconst h hx rfl hd (by rw [hv]; exact k)) G
theorem own_s_goto {p : Program} {e : Env} {below : List Frame} {T : State} {m : MethodId} {c : Code} {Φ : Outcome → State → Prop} {pc : Nat} {L : Array Slot} {S : List Value} (h : At T m c below) (hx : p.tables.exec = Jvm.exec) {o : Int} (pc' : Nat) (hd : decode c.code pc = .ok (.goto o, 3)) (ho : 0 ≤ (pc : Int) + o) (hp : ((pc : Int) + o).toNat = pc') (G : own_Go p e below T (mkF m pc' L S) Φ) : own_Go p e below T (mkF m pc L S) Φ := own_by (fun t k => XS.goto h hx rfl rfl hd ho hp k) G
theorem own_s_ifYes {p : Program} {e : Env} {below : List Frame} {T : State} {m : MethodId} {c : Code} {Φ : Outcome → State → Prop} {pc : Nat} {L : Array Slot} {S : List Value} (h : At T m c below) (hx : p.tables.exec = Jvm.exec) {cd : ClassFile.Cond} {x : Int32} {o : Int} (pc' : Nat) (hd : decode c.code pc = .ok (.ifCond cd o, 3)) (hc : ifCond.holds cd x = true) (ho : 0 ≤ (pc : Int) + o) (hp : ((pc : Int) + o).toNat = pc') (G : own_Go p e below T (mkF m pc' L S) Φ) : own_Go p e below T (mkF m pc L (.int x :: S)) Φ := own_by (fun t k => XS.ifYes h hx rfl rfl hd rfl hc ho hp k) G
theorem own_s_ifNo {p : Program} {e : Env} {below : List Frame} {T : State} {m : MethodId} {c : Code} {Φ : Outcome → State → Prop} {pc : Nat} {L : Array Slot} {S : List Value} (h : At T m c below) (hx : p.tables.exec = Jvm.exec) {cd : ClassFile.Cond} {x : Int32} {o : Int} (hd : decode c.code pc = .ok (.ifCond cd o, 3)) (hc : ifCond.holds cd x = false) (G : own_Go p e below T (mkF m (pc + 3) L S) Φ) : own_Go p e below T (mkF m pc L (.int x :: S)) Φ := own_by (fun t k => XS.ifNo h hx rfl hd rfl hc k) G
theorem own_s_icmpYes {p : Program} {e : Env} {below : List Frame} {T : State} {m : MethodId} {c : Code} {Φ : Outcome → State → Prop} {pc : Nat} {L : Array Slot} {S : List Value} (h : At T m c below) (hx : p.tables.exec = Jvm.exec) {cd : ClassFile.Cond} {x y : Int32} {o : Int} (pc' : Nat) (hd : decode c.code pc = .ok (.if_icmp cd o, 3)) (hc : if_icmp.holds cd x y = true) (ho : 0 ≤ (pc : Int) + o) (hp : ((pc : Int) + o).toNat = pc') (G : own_Go p e below T (mkF m pc' L S) Φ) : own_Go p e below T (mkF m pc L (.int y :: .int x :: S)) Φ := own_by (fun t k => XS.icmpYes h hx rfl rfl hd rfl hc ho hp k) G
theorem own_s_icmpNo {p : Program} {e : Env} {below : List Frame} {T : State} {m : MethodId} {c : Code} {Φ : Outcome → State → Prop} {pc : Nat} {L : Array Slot} {S : List Value} (h : At T m c below) (hx : p.tables.exec = Jvm.exec) {cd : ClassFile.Cond} {x y : Int32} {o : Int} (hd : decode c.code pc = .ok (.if_icmp cd o, 3)) (hc : if_icmp.holds cd x y = false) (G : own_Go p e below T (mkF m (pc + 3) L S) Φ) : own_Go p e below T (mkF m pc L (.int y :: .int x :: S)) Φ := own_by (fun t k => XS.icmpNo h hx rfl hd rfl hc k) G
theorem own_s_lcmp {p : Program} {e : Env} {below : List Frame} {T : State} {m : MethodId} {c : Code} {Φ : Outcome → State → Prop} {pc : Nat} {L : Array Slot} {S : List Value} (h : At T m c below) (hx : p.tables.exec = Jvm.exec) {x y : Int64} (hd : decode c.code pc = .ok (.lcmp, 1)) (G : own_Go p e below T (mkF m (pc + 1) L (.int (Jvm.Free.XT.cmpL x y) :: S)) Φ) : own_Go p e below T (mkF m pc L (.long y :: .long x :: S)) Φ := own_by (fun t k => Jvm.Free.XT.lcmp h hx rfl hd rfl k) G
theorem own_s_dup {p : Program} {e : Env} {below : List Frame} {T : State} {m : MethodId} {c : Code} {Φ : Outcome → State → Prop} {pc : Nat} {L : Array Slot} {S : List Value} (h : At T m c below) (hx : p.tables.exec = Jvm.exec) {x : Value} (hd : decode c.code pc = .ok (.dup, 1)) (hc : x.category = 1) (G : own_Go p e below T (mkF m (pc + 1) L (x :: x :: S)) Φ) : own_Go p e below T (mkF m pc L (x :: S)) Φ := own_by (fun t k => XS.dup h hx rfl hd rfl hc k) G
theorem own_s_pop {p : Program} {e : Env} {below : List Frame} {T : State} {m : MethodId} {c : Code} {Φ : Outcome → State → Prop} {pc : Nat} {L : Array Slot} {S : List Value} (h : At T m c below) (hx : p.tables.exec = Jvm.exec) {x : Value} (hd : decode c.code pc = .ok (.pop, 1)) (hc : x.category = 1) (G : own_Go p e below T (mkF m (pc + 1) L S) Φ) : own_Go p e below T (mkF m pc L (x :: S)) Φ := own_by (fun t k => XS.pop h hx rfl hd rfl hc k) G

theorem own_char {x : Int32} (h0 : 0 ≤ x.toInt) (h1 : x.toInt ≤ 65535) : nar .char x.toUInt32.toUInt16.toUInt32.toInt32 = x := by
  have e1 : x.toInt = x.toBitVec.toInt := rfl
  have hb := x.toBitVec.isLt
  have hn : x.toBitVec.toNat < 65536 := by rw [BitVec.toInt_eq_toNat_cond] at e1; split at e1 <;> omega
  have e2 : x.toUInt32.toUInt16.toUInt32.toInt32 = x := by
    apply Int32.toBitVec_inj.mp
    apply BitVec.eq_of_toNat_eq
    simp only [UInt32.toBitVec_toInt32, UInt16.toBitVec_toUInt32, UInt32.toBitVec_toUInt16, Int32.toBitVec_toUInt32]
    simp
    omega
  show x.toUInt32.toUInt16.toUInt32.toInt32.toUInt32.toUInt16.toUInt32.toInt32 = x
  rw [e2, e2]
theorem own_d2_0 : decode prog_20_method_1_code 0 = .ok (.aload_n 0, 1) := by decide +kernel
theorem own_d2_1 : decode prog_20_method_1_code 1 = .ok (.invokespecial 3, 3) := by decide +kernel
theorem own_d2_4 : decode prog_20_method_1_code 4 = .ok (.iload_n 1, 1) := by decide +kernel
theorem own_d2_5 : decode prog_20_method_1_code 5 = .ok (.ldc 11, 2) := by decide +kernel
theorem own_d2_7 : decode prog_20_method_1_code 7 = .ok (.if_icmp .gt 13, 3) := by decide +kernel
theorem own_d2_10 : decode prog_20_method_1_code 10 = .ok (.aload_n 0, 1) := by decide +kernel
theorem own_d2_11 : decode prog_20_method_1_code 11 = .ok (.iload_n 2, 1) := by decide +kernel
theorem own_d2_12 : decode prog_20_method_1_code 12 = .ok (.newarray .char, 2) := by decide +kernel
theorem own_d2_14 : decode prog_20_method_1_code 14 = .ok (.putfield 12, 3) := by decide +kernel
theorem own_d2_17 : decode prog_20_method_1_code 17 = .ok (.goto 10, 3) := by decide +kernel
theorem own_d2_20 : decode prog_20_method_1_code 20 = .ok (.aload_n 0, 1) := by decide +kernel
theorem own_d2_21 : decode prog_20_method_1_code 21 = .ok (.iload_n 2, 1) := by decide +kernel
theorem own_d2_22 : decode prog_20_method_1_code 22 = .ok (.newarray .int, 2) := by decide +kernel
theorem own_d2_24 : decode prog_20_method_1_code 24 = .ok (.putfield 16, 3) := by decide +kernel
theorem own_d2_27 : decode prog_20_method_1_code 27 = .ok (.return_, 1) := by decide +kernel
theorem own_pn_SlotArray : plainName "com/example/tallymark/tallymark/SlotArray" = true := by first | (simp [plainName, overriddenIn]; done) | decide +kernel
theorem own_ef2 (m : MethodId) (this : Addr) (p1 : Int32) (p2 : Int32) : entryFrame m #[(.ref this), (.int p1), (.int p2)] 3 = mkF m 0 #[.val (.ref this), .val (.int p1), .val (.int p2)] [] := by first | (simp [entryFrame, mkF, argsToLocals, Value.category]; done) | rfl
def own_q_own_inin (Z : State) (this : Addr) (p1 : Int32) (p2 : Int32) (n : Nat) (h0 : Heap) (n0 : Nat) (v : Option Value) (h : Heap) (L : List Loc) : Prop := v = none ∧ Fr n0 L ∧ Keep h0 h [this] ∧ ∃ a : Addr, n0 ≤ a ∧ this ≠ a ∧ Fld Z h this "com/example/tallymark/tallymark/SlotArray" "narrow" "[C" (.ref a) ∧ own_Av Z h a .char n (fun _ => (.int (0 : Int32)))
set_option maxRecDepth 65536 in
set_option maxHeartbeats 40000000 in
theorem own_inin (l : Launch) (Z : State) (a0 : Array Value) (hw : ∀ d ∈ tables_1, d.before a0 Z = true) (ws : List Jvm.Cond) (this : Addr) (p1 : Int32) (p2 : Int32) (n : Nat) (h0 : Heap) (n0 : Nat) (Z0 : n0 ≤ h0.size) (hm : ¬ (65535 : Int32) < p1) (hn : p2.toNatClampNeg = n) (hneg : ¬ p2 < 0) (hle : n ≤ 8) (E_this : Exa Z h0 this "com/example/tallymark/tallymark/SlotArray") (F_this_narrow : Fld Z h0 this "com/example/tallymark/tallymark/SlotArray" "narrow" "[C" .null) (F_this_wide : Fld Z h0 this "com/example/tallymark/tallymark/SlotArray" "wide" "[I" .null) (ge_this : n0 ≤ this) :
    MetFree l (⟨"com/example/tallymark/tallymark/SlotArray", "<init>", "(II)V"⟩ : MethodName) (head1 (Jvm.Cond.code (⟨"com/example/tallymark/tallymark/SlotArray", "<init>", "(II)V"⟩ : MethodName) prog_20_method_1_code 3 none :: ws) ({ frames := 1, cells := 1, slots := 8, locals := 12 } : Room)) (fun a U => a = #[(.ref this), (.int p1), (.int p2)] ∧ Z.Warmed39 U.vm ∧ U.heap = h0) (fun _ _ _ _ _ => True) (fun _ U o U' => ∃ v L, o = .returned v ∧ own_q_own_inin Z this p1 p2 n h0 n0 v U'.heap L ∧ FrameEnd U o U' L ({ frames := 1, cells := 1, slots := 8, locals := 12 } : Room).cells ({ frames := 1, cells := 1, slots := 8, locals := 12 } : Room).slots) := by
  refine MetFree.of_bodySF (plainFor_of_name own_pn_SlotArray) hisR ?_
  intro p e s m args below meth c T0 Bd hml0 hP hK
  obtain ⟨rfl, hZ, hh⟩ := hP
  have hx := Bd.exec
  have hby := Bd.bytes
  have hml : c.maxLocals = 3 := hml0
  have hown : s.vm.findClass "com/example/tallymark/tallymark/SlotArray" = some m.cls := findClass_of_methodNamed Bd.named
  have hnm := (name_of_methodNamed Bd.named Bd.method).1
  have hret : meth.sig.returnType = none := Bd.returns
  have hlk : meth.locks = false := BodyLoose.notSynchronized Bd
  have X0 : Stand p l e ({ frames := 1, cells := 1, slots := 8, locals := 12 } : Room) s m #[(.ref this), (.int p1), (.int p2)] below meth c T0 [] 0 0 := Stand.of_body Bd
  have e0 : T0.heap = h0 := by rw [← hh, Bd.state]; rfl
  have N0 := Fr.nil n0
  refine own_start (own_ef2 m this p1 p2) (Q := fun (v : Option Value) (h : Heap) (L : List Loc) => v = none ∧ Fr n0 L ∧ Keep h0 h [this] ∧ ∃ a : Addr, n0 ≤ a ∧ this ≠ a ∧ Fld Z h this "com/example/tallymark/tallymark/SlotArray" "narrow" "[C" (.ref a) ∧ own_Av Z h a .char n (fun _ => (.int (0 : Int32)))) (k := 1) (j := 8) ?_
  show own_Go p e below T0 (mkF m 0 #[.val (.ref this), .val (.int p1), .val (.int p2)] []) _
  have K0 := Keep.refl h0 [this]
  refine own_s_aloadN X0.here hx (hb hby own_d2_0) rfl rfl ?_
  obtain ⟨T1, X1, e1, st1⟩ := initO X0 hx hZ hown (hw _ (List.mem_of_getElem? (i := 12) rfl)) (hw _ (List.mem_of_getElem? (i := 13) rfl)) (hw _ (List.mem_of_getElem? (i := 14) rfl)) e0 (g := (mkF m 1 #[.val (.ref this), .val (.int p1), .val (.int p2)] [(.ref this)])) rfl (by rw [hml]; rfl) rfl (hb hby own_d2_1) (by decide) (W := 0) (by show 2 * 0 + _ ≤ _; exact Nat.le_of_eq rfl) (by decide)
  refine own_by st1 ?_
  show own_Go p e below T1 (mkF m 4 #[.val (.ref this), .val (.int p1), .val (.int p2)] []) _
  refine own_s_iloadN X1.here hx (hb hby own_d2_4) rfl ?_
  refine own_by (fun tq_ kq_ => X1.ldcInt hx hown (mvT hZ (hw _ (List.mem_of_getElem? (i := 15) rfl))) (g := (mkF m 5 #[.val (.ref this), .val (.int p1), .val (.int p2)] [(.int p1)])) rfl (hb hby own_d2_5) tq_ kq_) ?_
  show own_Go p e below T1 (mkF m 7 #[.val (.ref this), .val (.int p1), .val (.int p2)] [(.int (65535 : Int32)), (.int p1)]) _
  refine own_s_icmpNo X1.here hx (hb hby own_d2_7) (Jvm.Free.XT.ii_gt_f hm) ?_
  refine own_s_aloadN X1.here hx (hb hby own_d2_10) rfl rfl ?_
  refine own_s_iloadN X1.here hx (hb hby own_d2_11) rfl ?_
  obtain ⟨T2, h2, k2, X2, e2, E2, A2, st2⟩ := newP X1 hx hZ (hw _ (List.mem_of_getElem? (i := 16) rfl)) e1 (g := (mkF m 12 #[.val (.ref this), .val (.int p1), .val (.int p2)] [(.int p2), (.ref this)])) rfl (hb hby own_d2_12) rfl hneg (cap := 8) (by rw [hn]; exact hle) (by decide) (by decide) (by decide)
  obtain ⟨b2, g2⟩ : ∃ z, z = h0.size := ⟨_, rfl⟩
  rw [← g2] at A2 st2
  have ge_b2 : n0 ≤ b2 := Nat.le_trans Z0 (Nat.le_of_eq g2.symm)
  have sz_b2 : h0.size ≤ b2 := Nat.le_trans K0.1 (Nat.le_of_eq g2.symm)
  have ne_this_b2 : this ≠ b2 := Nat.ne_of_lt (Nat.lt_of_lt_of_le E_this.lt (Nat.le_of_eq g2.symm))
  have f3 := E_this.ext E2
  have f4 := F_this_narrow.ext E2
  have f5 := F_this_wide.ext E2
  have SZ2 : n0 ≤ h2.size := Nat.le_trans Z0 E2.1
  have K2 := K0.ext E2
  have f6 : own_Av Z h2 b2 .char n (fun _ => (.int (0 : Int32))) := own_Av.ofnew A2 hn rfl
  refine own_by st2 ?_
  show own_Go p e below T2 (mkF m 14 #[.val (.ref this), .val (.int p1), .val (.int p2)] [(.ref b2), (.ref this)]) _
  obtain ⟨T7, h7, X7, e7, W7, st7⟩ := putF X2 hx hZ hown (host := "") (Or.inl (hw _ (List.mem_of_getElem? (i := 17) rfl))) Via.refl e2 f4 f3 (Or.inl (hw _ (List.mem_of_getElem? (i := 18) rfl))) (hw _ (List.mem_of_getElem? (i := 7) rfl)) (ty := (.array .char)) (by decide) rfl rfl (g := (mkF m 14 #[.val (.ref this), .val (.int p1), .val (.int p2)] [(.ref b2), (.ref this)])) rfl rfl (hb hby own_d2_14)
  have fw7 := f4.same W7
  have f8 := f3.wr W7
  have f9 := f5.other W7 (Or.inr (slot_ne (Or.inl (hw _ (List.mem_of_getElem? (i := 31) rfl))) (Or.inl (hw _ (List.mem_of_getElem? (i := 18) rfl))) (by decide) (t := (.array .int)) (t' := (.array .char)) (by decide) (by decide)))
  have f10 := f6.other W7 (Ne.symm ne_this_b2)
  have N7 := Fr.snoc X7 N0 ge_this
  have SZ7 : n0 ≤ h7.size := by rw [W7.size]; exact SZ2
  have K7 := K2.wr W7 (Or.inl (List.mem_of_getElem? (i := 0) rfl))
  refine own_by st7 ?_
  show own_Go p e below T7 (mkF m 17 #[.val (.ref this), .val (.int p1), .val (.int p2)] []) _
  refine own_s_goto X7.here hx 27 (hb hby own_d2_17) (by decide) (by decide) ?_
  refine own_retV X7 hx hret hlk (hb hby own_d2_27) (by decide) (by decide) ?_
  rw [e7]
  exact ⟨rfl, N7, K7, b2, ge_b2, ne_this_b2, fw7, f10⟩
theorem own_d4_0 : decode prog_20_method_3_code 0 = .ok (.aload_n 0, 1) := by decide +kernel
theorem own_d4_1 : decode prog_20_method_3_code 1 = .ok (.getfield 12, 3) := by decide +kernel
theorem own_d4_4 : decode prog_20_method_3_code 4 = .ok (.ifnull 12, 3) := by decide +kernel
theorem own_d4_7 : decode prog_20_method_3_code 7 = .ok (.aload_n 0, 1) := by decide +kernel
theorem own_d4_8 : decode prog_20_method_3_code 8 = .ok (.getfield 12, 3) := by decide +kernel
theorem own_d4_11 : decode prog_20_method_3_code 11 = .ok (.iload_n 1, 1) := by decide +kernel
theorem own_d4_12 : decode prog_20_method_3_code 12 = .ok (.caload, 1) := by decide +kernel
theorem own_d4_13 : decode prog_20_method_3_code 13 = .ok (.goto 9, 3) := by decide +kernel
theorem own_d4_16 : decode prog_20_method_3_code 16 = .ok (.aload_n 0, 1) := by decide +kernel
theorem own_d4_17 : decode prog_20_method_3_code 17 = .ok (.getfield 16, 3) := by decide +kernel
theorem own_d4_20 : decode prog_20_method_3_code 20 = .ok (.iload_n 1, 1) := by decide +kernel
theorem own_d4_21 : decode prog_20_method_3_code 21 = .ok (.iaload, 1) := by decide +kernel
theorem own_d4_22 : decode prog_20_method_3_code 22 = .ok (.iconst 1, 1) := by decide +kernel
theorem own_d4_23 : decode prog_20_method_3_code 23 = .ok (.isub, 1) := by decide +kernel
theorem own_d4_24 : decode prog_20_method_3_code 24 = .ok (.ireturn, 1) := by decide +kernel
theorem own_ef4 (m : MethodId) (this : Addr) (p1 : Int32) : entryFrame m #[(.ref this), (.int p1)] 2 = mkF m 0 #[.val (.ref this), .val (.int p1)] [] := by first | (simp [entryFrame, mkF, argsToLocals, Value.category]; done) | rfl
def own_q_own_getn (Z : State) (this : Addr) (p1 : Int32) (a : Addr) (n k : Nat) (f : Nat → Value) (z : Int32) (h0 : Heap) (n0 : Nat) (v : Option Value) (h : Heap) (L : List Loc) : Prop := v = some (.int (z - (1 : Int32))) ∧ Fr n0 L ∧ h = h0
set_option maxRecDepth 65536 in
set_option maxHeartbeats 40000000 in
theorem own_getn (l : Launch) (Z : State) (a0 : Array Value) (hw : ∀ d ∈ tables_1, d.before a0 Z = true) (ws : List Jvm.Cond) (this : Addr) (p1 : Int32) (a : Addr) (n k : Nat) (f : Nat → Value) (z : Int32) (h0 : Heap) (n0 : Nat) (Z0 : n0 ≤ h0.size) (hj : own_At p1 k) (hk : k < n) (hv : f k = .int z) (F_this_narrow : Fld Z h0 this "com/example/tallymark/tallymark/SlotArray" "narrow" "[C" (.ref a)) (A_a : own_Av Z h0 a .char n f) :
    MetFree l (⟨"com/example/tallymark/tallymark/SlotArray", "get", "(I)I"⟩ : MethodName) (head1 (Jvm.Cond.code (⟨"com/example/tallymark/tallymark/SlotArray", "get", "(I)I"⟩ : MethodName) prog_20_method_3_code 2 (some .int) :: ws) ({ frames := 0, cells := 0, slots := 0, locals := 0 } : Room)) (fun a U => a = #[(.ref this), (.int p1)] ∧ Z.Warmed39 U.vm ∧ U.heap = h0) (fun _ _ _ _ _ => True) (fun _ U o U' => ∃ v L, o = .returned v ∧ own_q_own_getn Z this p1 a n k f z h0 n0 v U'.heap L ∧ FrameEnd U o U' L ({ frames := 0, cells := 0, slots := 0, locals := 0 } : Room).cells ({ frames := 0, cells := 0, slots := 0, locals := 0 } : Room).slots) := by
  refine MetFree.of_bodySF (plainFor_of_name own_pn_SlotArray) hisR ?_
  intro p e s m args below meth c T0 Bd hml0 hP hK
  obtain ⟨rfl, hZ, hh⟩ := hP
  have hx := Bd.exec
  have hby := Bd.bytes
  have hml : c.maxLocals = 2 := hml0
  have hown : s.vm.findClass "com/example/tallymark/tallymark/SlotArray" = some m.cls := findClass_of_methodNamed Bd.named
  have hnm := (name_of_methodNamed Bd.named Bd.method).1
  have hret : meth.sig.returnType = (some .int) := Bd.returns
  have hlk : meth.locks = false := BodyLoose.notSynchronized Bd
  have X0 : Stand p l e ({ frames := 0, cells := 0, slots := 0, locals := 0 } : Room) s m #[(.ref this), (.int p1)] below meth c T0 [] 0 0 := Stand.of_body Bd
  have e0 : T0.heap = h0 := by rw [← hh, Bd.state]; rfl
  have N0 := Fr.nil n0
  refine own_start (own_ef4 m this p1) (Q := fun (v : Option Value) (h : Heap) (L : List Loc) => v = some (.int (z - (1 : Int32))) ∧ Fr n0 L ∧ h = h0) (k := 0) (j := 0) ?_
  show own_Go p e below T0 (mkF m 0 #[.val (.ref this), .val (.int p1)] []) _
  refine own_s_aloadN X0.here hx (hb hby own_d4_0) rfl rfl ?_
  obtain ⟨T11, X11, e11, st11⟩ := getF X0 hx hZ hown (host := "") (Or.inl (hw _ (List.mem_of_getElem? (i := 17) rfl))) Via.refl e0 F_this_narrow (g := (mkF m 1 #[.val (.ref this), .val (.int p1)] [(.ref this)])) rfl rfl (hb hby own_d4_1)
  refine own_by st11 ?_
  show own_Go p e below T11 (mkF m 4 #[.val (.ref this), .val (.int p1)] [(.ref a)]) _
  refine own_by (fun tq_ kq_ => XS.ifnullNo X11.here hx rfl (hb hby own_d4_4) rfl kq_) ?_
  show own_Go p e below T11 (mkF m 7 #[.val (.ref this), .val (.int p1)] []) _
  refine own_s_aloadN X11.here hx (hb hby own_d4_7) rfl rfl ?_
  obtain ⟨T12, X12, e12, st12⟩ := getF X11 hx hZ hown (host := "") (Or.inl (hw _ (List.mem_of_getElem? (i := 17) rfl))) Via.refl e11 F_this_narrow (g := (mkF m 8 #[.val (.ref this), .val (.int p1)] [(.ref this)])) rfl rfl (hb hby own_d4_8)
  refine own_by st12 ?_
  show own_Go p e below T12 (mkF m 11 #[.val (.ref this), .val (.int p1)] [(.ref a)]) _
  refine own_s_iloadN X12.here hx (hb hby own_d4_11) rfl ?_
  refine own_by (fun tq_ kq_ => own_ldC X12 hx hZ e12 A_a (k := k) (v := (.int z)) hj hk hv (g := (mkF m 12 #[.val (.ref this), .val (.int p1)] [(.int p1), (.ref a)])) rfl rfl (hb hby own_d4_12) tq_ kq_) ?_
  show own_Go p e below T12 (mkF m 13 #[.val (.ref this), .val (.int p1)] [(.int z)]) _
  refine own_s_goto X12.here hx 22 (hb hby own_d4_13) (by decide) (by decide) ?_
  refine own_s_iconst X12.here hx (1 : Int32) (hb hby own_d4_22) rfl ?_
  refine own_s_isub X12.here hx (hb hby own_d4_23) ?_
  refine own_retI X12 hx hret hlk (hb hby own_d4_24) (by decide) (by decide) ?_
  exact ⟨rfl, N0, e12⟩
theorem own_d5_0 : decode prog_20_method_4_code 0 = .ok (.aload_n 0, 1) := by decide +kernel
theorem own_d5_1 : decode prog_20_method_4_code 1 = .ok (.getfield 12, 3) := by decide +kernel
theorem own_d5_4 : decode prog_20_method_4_code 4 = .ok (.ifnull 16, 3) := by decide +kernel
theorem own_d5_7 : decode prog_20_method_4_code 7 = .ok (.aload_n 0, 1) := by decide +kernel
theorem own_d5_8 : decode prog_20_method_4_code 8 = .ok (.getfield 12, 3) := by decide +kernel
theorem own_d5_11 : decode prog_20_method_4_code 11 = .ok (.iload_n 1, 1) := by decide +kernel
theorem own_d5_12 : decode prog_20_method_4_code 12 = .ok (.iload_n 2, 1) := by decide +kernel
theorem own_d5_13 : decode prog_20_method_4_code 13 = .ok (.iconst 1, 1) := by decide +kernel
theorem own_d5_14 : decode prog_20_method_4_code 14 = .ok (.iadd, 1) := by decide +kernel
theorem own_d5_15 : decode prog_20_method_4_code 15 = .ok (.i2c, 1) := by decide +kernel
theorem own_d5_16 : decode prog_20_method_4_code 16 = .ok (.castore, 1) := by decide +kernel
theorem own_d5_17 : decode prog_20_method_4_code 17 = .ok (.goto 12, 3) := by decide +kernel
theorem own_d5_20 : decode prog_20_method_4_code 20 = .ok (.aload_n 0, 1) := by decide +kernel
theorem own_d5_21 : decode prog_20_method_4_code 21 = .ok (.getfield 16, 3) := by decide +kernel
theorem own_d5_24 : decode prog_20_method_4_code 24 = .ok (.iload_n 1, 1) := by decide +kernel
theorem own_d5_25 : decode prog_20_method_4_code 25 = .ok (.iload_n 2, 1) := by decide +kernel
theorem own_d5_26 : decode prog_20_method_4_code 26 = .ok (.iconst 1, 1) := by decide +kernel
theorem own_d5_27 : decode prog_20_method_4_code 27 = .ok (.iadd, 1) := by decide +kernel
theorem own_d5_28 : decode prog_20_method_4_code 28 = .ok (.iastore, 1) := by decide +kernel
theorem own_d5_29 : decode prog_20_method_4_code 29 = .ok (.return_, 1) := by decide +kernel
theorem own_ef5 (m : MethodId) (this : Addr) (p1 : Int32) (p2 : Int32) : entryFrame m #[(.ref this), (.int p1), (.int p2)] 3 = mkF m 0 #[.val (.ref this), .val (.int p1), .val (.int p2)] [] := by first | (simp [entryFrame, mkF, argsToLocals, Value.category]; done) | rfl
def own_q_own_setn (Z : State) (this : Addr) (p1 : Int32) (p2 : Int32) (a : Addr) (n k : Nat) (f : Nat → Value) (h0 : Heap) (n0 : Nat) (v : Option Value) (h : Heap) (L : List Loc) : Prop := v = none ∧ Fr n0 L ∧ Keep h0 h [a] ∧ own_Av Z h a .char n (own_upd f k (.int (p2 + (1 : Int32))))
set_option maxRecDepth 65536 in
set_option maxHeartbeats 40000000 in
theorem own_setn (l : Launch) (Z : State) (a0 : Array Value) (hw : ∀ d ∈ tables_1, d.before a0 Z = true) (ws : List Jvm.Cond) (this : Addr) (p1 : Int32) (p2 : Int32) (a : Addr) (n k : Nat) (f : Nat → Value) (h0 : Heap) (n0 : Nat) (Z0 : n0 ≤ h0.size) (hj : own_At p1 k) (hk : k < n) (hnar : nar .char ((p2 + (1 : Int32)).toUInt32.toUInt16.toUInt32.toInt32) = (p2 + (1 : Int32))) (F_this_narrow : Fld Z h0 this "com/example/tallymark/tallymark/SlotArray" "narrow" "[C" (.ref a)) (A_a : own_Av Z h0 a .char n f) (ge_a : n0 ≤ a) (ne_this_a : this ≠ a) :
    MetFree l (⟨"com/example/tallymark/tallymark/SlotArray", "set", "(II)V"⟩ : MethodName) (head1 (Jvm.Cond.code (⟨"com/example/tallymark/tallymark/SlotArray", "set", "(II)V"⟩ : MethodName) prog_20_method_4_code 3 none :: ws) ({ frames := 0, cells := 0, slots := 0, locals := 0 } : Room)) (fun a U => a = #[(.ref this), (.int p1), (.int p2)] ∧ Z.Warmed39 U.vm ∧ U.heap = h0) (fun _ _ _ _ _ => True) (fun _ U o U' => ∃ v L, o = .returned v ∧ own_q_own_setn Z this p1 p2 a n k f h0 n0 v U'.heap L ∧ FrameEnd U o U' L ({ frames := 0, cells := 0, slots := 0, locals := 0 } : Room).cells ({ frames := 0, cells := 0, slots := 0, locals := 0 } : Room).slots) := by
  refine MetFree.of_bodySF (plainFor_of_name own_pn_SlotArray) hisR ?_
  intro p e s m args below meth c T0 Bd hml0 hP hK
  obtain ⟨rfl, hZ, hh⟩ := hP
  have hx := Bd.exec
  have hby := Bd.bytes
  have hml : c.maxLocals = 3 := hml0
  have hown : s.vm.findClass "com/example/tallymark/tallymark/SlotArray" = some m.cls := findClass_of_methodNamed Bd.named
  have hnm := (name_of_methodNamed Bd.named Bd.method).1
  have hret : meth.sig.returnType = none := Bd.returns
  have hlk : meth.locks = false := BodyLoose.notSynchronized Bd
  have X0 : Stand p l e ({ frames := 0, cells := 0, slots := 0, locals := 0 } : Room) s m #[(.ref this), (.int p1), (.int p2)] below meth c T0 [] 0 0 := Stand.of_body Bd
  have e0 : T0.heap = h0 := by rw [← hh, Bd.state]; rfl
  have N0 := Fr.nil n0
  refine own_start (own_ef5 m this p1 p2) (Q := fun (v : Option Value) (h : Heap) (L : List Loc) => v = none ∧ Fr n0 L ∧ Keep h0 h [a] ∧ own_Av Z h a .char n (own_upd f k (.int (p2 + (1 : Int32))))) (k := 0) (j := 0) ?_
  show own_Go p e below T0 (mkF m 0 #[.val (.ref this), .val (.int p1), .val (.int p2)] []) _
  have K0 := Keep.refl h0 [a]
  refine own_s_aloadN X0.here hx (hb hby own_d5_0) rfl rfl ?_
  obtain ⟨T13, X13, e13, st13⟩ := getF X0 hx hZ hown (host := "") (Or.inl (hw _ (List.mem_of_getElem? (i := 17) rfl))) Via.refl e0 F_this_narrow (g := (mkF m 1 #[.val (.ref this), .val (.int p1), .val (.int p2)] [(.ref this)])) rfl rfl (hb hby own_d5_1)
  refine own_by st13 ?_
  show own_Go p e below T13 (mkF m 4 #[.val (.ref this), .val (.int p1), .val (.int p2)] [(.ref a)]) _
  refine own_by (fun tq_ kq_ => XS.ifnullNo X13.here hx rfl (hb hby own_d5_4) rfl kq_) ?_
  show own_Go p e below T13 (mkF m 7 #[.val (.ref this), .val (.int p1), .val (.int p2)] []) _
  refine own_s_aloadN X13.here hx (hb hby own_d5_7) rfl rfl ?_
  obtain ⟨T14, X14, e14, st14⟩ := getF X13 hx hZ hown (host := "") (Or.inl (hw _ (List.mem_of_getElem? (i := 17) rfl))) Via.refl e13 F_this_narrow (g := (mkF m 8 #[.val (.ref this), .val (.int p1), .val (.int p2)] [(.ref this)])) rfl rfl (hb hby own_d5_8)
  refine own_by st14 ?_
  show own_Go p e below T14 (mkF m 11 #[.val (.ref this), .val (.int p1), .val (.int p2)] [(.ref a)]) _
  refine own_s_iloadN X14.here hx (hb hby own_d5_11) rfl ?_
  refine own_s_iloadN X14.here hx (hb hby own_d5_12) rfl ?_
  refine own_s_iconst X14.here hx (1 : Int32) (hb hby own_d5_13) rfl ?_
  refine own_s_iadd X14.here hx (hb hby own_d5_14) ?_
  refine own_s_i2c X14.here hx (hb hby own_d5_15) ?_
  obtain ⟨T15, h15, X15, e15, W15, fa15, st15⟩ := own_stC X14 hx hZ e14 A_a (k := k) hj hk (g := (mkF m 16 #[.val (.ref this), .val (.int p1), .val (.int p2)] [(.int ((p2 + (1 : Int32)).toUInt32.toUInt16.toUInt32.toInt32)), (.int p1), (.ref a)])) rfl rfl (hb hby own_d5_16)
  have f16 := F_this_narrow.other W15 (Or.inl ne_this_a)
  have N15 := Fr.snoc X15 N0 ge_a
  have SZ15 : n0 ≤ h15.size := by rw [W15.size]; exact Z0
  have K15 := K0.wr W15 (Or.inl (List.mem_of_getElem? (i := 0) rfl))
  refine own_by st15 ?_
  show own_Go p e below T15 (mkF m 17 #[.val (.ref this), .val (.int p1), .val (.int p2)] []) _
  refine own_s_goto X15.here hx 29 (hb hby own_d5_17) (by decide) (by decide) ?_
  refine own_retV X15 hx hret hlk (hb hby own_d5_29) (by decide) (by decide) ?_
  rw [e15]
  have fx := fa15
  rw [hnar] at fx
  exact ⟨rfl, N15, K15, fx⟩
def own_q_own_iniw (Z : State) (this : Addr) (p1 : Int32) (p2 : Int32) (n : Nat) (h0 : Heap) (n0 : Nat) (v : Option Value) (h : Heap) (L : List Loc) : Prop := v = none ∧ Fr n0 L ∧ Keep h0 h [this] ∧ ∃ a : Addr, n0 ≤ a ∧ this ≠ a ∧ Fld Z h this "com/example/tallymark/tallymark/SlotArray" "wide" "[I" (.ref a) ∧ own_Av Z h a .int n (fun _ => (.int (0 : Int32))) ∧ Fld Z h this "com/example/tallymark/tallymark/SlotArray" "narrow" "[C" .null
set_option maxRecDepth 65536 in
set_option maxHeartbeats 40000000 in
theorem own_iniw (l : Launch) (Z : State) (a0 : Array Value) (hw : ∀ d ∈ tables_1, d.before a0 Z = true) (ws : List Jvm.Cond) (this : Addr) (p1 : Int32) (p2 : Int32) (n : Nat) (h0 : Heap) (n0 : Nat) (Z0 : n0 ≤ h0.size) (hm : (65535 : Int32) < p1) (hn : p2.toNatClampNeg = n) (hneg : ¬ p2 < 0) (hle : n ≤ 8) (E_this : Exa Z h0 this "com/example/tallymark/tallymark/SlotArray") (F_this_narrow : Fld Z h0 this "com/example/tallymark/tallymark/SlotArray" "narrow" "[C" .null) (F_this_wide : Fld Z h0 this "com/example/tallymark/tallymark/SlotArray" "wide" "[I" .null) (ge_this : n0 ≤ this) :
    MetFree l (⟨"com/example/tallymark/tallymark/SlotArray", "<init>", "(II)V"⟩ : MethodName) (head1 (Jvm.Cond.code (⟨"com/example/tallymark/tallymark/SlotArray", "<init>", "(II)V"⟩ : MethodName) prog_20_method_1_code 3 none :: ws) ({ frames := 1, cells := 1, slots := 8, locals := 12 } : Room)) (fun a U => a = #[(.ref this), (.int p1), (.int p2)] ∧ Z.Warmed39 U.vm ∧ U.heap = h0) (fun _ _ _ _ _ => True) (fun _ U o U' => ∃ v L, o = .returned v ∧ own_q_own_iniw Z this p1 p2 n h0 n0 v U'.heap L ∧ FrameEnd U o U' L ({ frames := 1, cells := 1, slots := 8, locals := 12 } : Room).cells ({ frames := 1, cells := 1, slots := 8, locals := 12 } : Room).slots) := by
  refine MetFree.of_bodySF (plainFor_of_name own_pn_SlotArray) hisR ?_
  intro p e s m args below meth c T0 Bd hml0 hP hK
  obtain ⟨rfl, hZ, hh⟩ := hP
  have hx := Bd.exec
  have hby := Bd.bytes
  have hml : c.maxLocals = 3 := hml0
  have hown : s.vm.findClass "com/example/tallymark/tallymark/SlotArray" = some m.cls := findClass_of_methodNamed Bd.named
  have hnm := (name_of_methodNamed Bd.named Bd.method).1
  have hret : meth.sig.returnType = none := Bd.returns
  have hlk : meth.locks = false := BodyLoose.notSynchronized Bd
  have X0 : Stand p l e ({ frames := 1, cells := 1, slots := 8, locals := 12 } : Room) s m #[(.ref this), (.int p1), (.int p2)] below meth c T0 [] 0 0 := Stand.of_body Bd
  have e0 : T0.heap = h0 := by rw [← hh, Bd.state]; rfl
  have N0 := Fr.nil n0
  refine own_start (own_ef2 m this p1 p2) (Q := fun (v : Option Value) (h : Heap) (L : List Loc) => v = none ∧ Fr n0 L ∧ Keep h0 h [this] ∧ ∃ a : Addr, n0 ≤ a ∧ this ≠ a ∧ Fld Z h this "com/example/tallymark/tallymark/SlotArray" "wide" "[I" (.ref a) ∧ own_Av Z h a .int n (fun _ => (.int (0 : Int32))) ∧ Fld Z h this "com/example/tallymark/tallymark/SlotArray" "narrow" "[C" .null) (k := 1) (j := 8) ?_
  show own_Go p e below T0 (mkF m 0 #[.val (.ref this), .val (.int p1), .val (.int p2)] []) _
  have K0 := Keep.refl h0 [this]
  refine own_s_aloadN X0.here hx (hb hby own_d2_0) rfl rfl ?_
  obtain ⟨T17, X17, e17, st17⟩ := initO X0 hx hZ hown (hw _ (List.mem_of_getElem? (i := 12) rfl)) (hw _ (List.mem_of_getElem? (i := 13) rfl)) (hw _ (List.mem_of_getElem? (i := 14) rfl)) e0 (g := (mkF m 1 #[.val (.ref this), .val (.int p1), .val (.int p2)] [(.ref this)])) rfl (by rw [hml]; rfl) rfl (hb hby own_d2_1) (by decide) (W := 0) (by show 2 * 0 + _ ≤ _; exact Nat.le_of_eq rfl) (by decide)
  refine own_by st17 ?_
  show own_Go p e below T17 (mkF m 4 #[.val (.ref this), .val (.int p1), .val (.int p2)] []) _
  refine own_s_iloadN X17.here hx (hb hby own_d2_4) rfl ?_
  refine own_by (fun tq_ kq_ => X17.ldcInt hx hown (mvT hZ (hw _ (List.mem_of_getElem? (i := 15) rfl))) (g := (mkF m 5 #[.val (.ref this), .val (.int p1), .val (.int p2)] [(.int p1)])) rfl (hb hby own_d2_5) tq_ kq_) ?_
  show own_Go p e below T17 (mkF m 7 #[.val (.ref this), .val (.int p1), .val (.int p2)] [(.int (65535 : Int32)), (.int p1)]) _
  refine own_s_icmpYes X17.here hx 20 (hb hby own_d2_7) (Jvm.Free.XT.ii_gt_t hm) (by decide) (by decide) ?_
  refine own_s_aloadN X17.here hx (hb hby own_d2_20) rfl rfl ?_
  refine own_s_iloadN X17.here hx (hb hby own_d2_21) rfl ?_
  obtain ⟨T18, h18, k18, X18, e18, E18, A18, st18⟩ := newP X17 hx hZ (hw _ (List.mem_of_getElem? (i := 29) rfl)) e17 (g := (mkF m 22 #[.val (.ref this), .val (.int p1), .val (.int p2)] [(.int p2), (.ref this)])) rfl (hb hby own_d2_22) rfl hneg (cap := 8) (by rw [hn]; exact hle) (by decide) (by decide) (by decide)
  obtain ⟨b18, g18⟩ : ∃ z, z = h0.size := ⟨_, rfl⟩
  rw [← g18] at A18 st18
  have ge_b18 : n0 ≤ b18 := Nat.le_trans Z0 (Nat.le_of_eq g18.symm)
  have sz_b18 : h0.size ≤ b18 := Nat.le_trans K0.1 (Nat.le_of_eq g18.symm)
  have ne_this_b18 : this ≠ b18 := Nat.ne_of_lt (Nat.lt_of_lt_of_le E_this.lt (Nat.le_of_eq g18.symm))
  have f19 := E_this.ext E18
  have f20 := F_this_narrow.ext E18
  have f21 := F_this_wide.ext E18
  have SZ18 : n0 ≤ h18.size := Nat.le_trans Z0 E18.1
  have K18 := K0.ext E18
  have f22 : own_Av Z h18 b18 .int n (fun _ => (.int (0 : Int32))) := own_Av.ofnew A18 hn rfl
  refine own_by st18 ?_
  show own_Go p e below T18 (mkF m 24 #[.val (.ref this), .val (.int p1), .val (.int p2)] [(.ref b18), (.ref this)]) _
  obtain ⟨T23, h23, X23, e23, W23, st23⟩ := putF X18 hx hZ hown (host := "") (Or.inl (hw _ (List.mem_of_getElem? (i := 30) rfl))) Via.refl e18 f21 f19 (Or.inl (hw _ (List.mem_of_getElem? (i := 31) rfl))) (hw _ (List.mem_of_getElem? (i := 7) rfl)) (ty := (.array .int)) (by decide) rfl rfl (g := (mkF m 24 #[.val (.ref this), .val (.int p1), .val (.int p2)] [(.ref b18), (.ref this)])) rfl rfl (hb hby own_d2_24)
  have fw23 := f21.same W23
  have f24 := f19.wr W23
  have f25 := f20.other W23 (Or.inr (slot_ne (Or.inl (hw _ (List.mem_of_getElem? (i := 18) rfl))) (Or.inl (hw _ (List.mem_of_getElem? (i := 31) rfl))) (by decide) (t := (.array .char)) (t' := (.array .int)) (by decide) (by decide)))
  have f26 := f22.other W23 (Ne.symm ne_this_b18)
  have N23 := Fr.snoc X23 N0 ge_this
  have SZ23 : n0 ≤ h23.size := by rw [W23.size]; exact SZ18
  have K23 := K18.wr W23 (Or.inl (List.mem_of_getElem? (i := 0) rfl))
  refine own_by st23 ?_
  show own_Go p e below T23 (mkF m 27 #[.val (.ref this), .val (.int p1), .val (.int p2)] []) _
  refine own_retV X23 hx hret hlk (hb hby own_d2_27) (by decide) (by decide) ?_
  rw [e23]
  exact ⟨rfl, N23, K23, b18, ge_b18, ne_this_b18, fw23, f26, f25⟩
def own_q_own_getw (Z : State) (this : Addr) (p1 : Int32) (a : Addr) (n k : Nat) (f : Nat → Value) (z : Int32) (h0 : Heap) (n0 : Nat) (v : Option Value) (h : Heap) (L : List Loc) : Prop := v = some (.int (z - (1 : Int32))) ∧ Fr n0 L ∧ h = h0
set_option maxRecDepth 65536 in
set_option maxHeartbeats 40000000 in
theorem own_getw (l : Launch) (Z : State) (a0 : Array Value) (hw : ∀ d ∈ tables_1, d.before a0 Z = true) (ws : List Jvm.Cond) (this : Addr) (p1 : Int32) (a : Addr) (n k : Nat) (f : Nat → Value) (z : Int32) (h0 : Heap) (n0 : Nat) (Z0 : n0 ≤ h0.size) (hj : own_At p1 k) (hk : k < n) (hv : f k = .int z) (F_this_wide : Fld Z h0 this "com/example/tallymark/tallymark/SlotArray" "wide" "[I" (.ref a)) (F_this_narrow : Fld Z h0 this "com/example/tallymark/tallymark/SlotArray" "narrow" "[C" .null) (A_a : own_Av Z h0 a .int n f) :
    MetFree l (⟨"com/example/tallymark/tallymark/SlotArray", "get", "(I)I"⟩ : MethodName) (head1 (Jvm.Cond.code (⟨"com/example/tallymark/tallymark/SlotArray", "get", "(I)I"⟩ : MethodName) prog_20_method_3_code 2 (some .int) :: ws) ({ frames := 0, cells := 0, slots := 0, locals := 0 } : Room)) (fun a U => a = #[(.ref this), (.int p1)] ∧ Z.Warmed39 U.vm ∧ U.heap = h0) (fun _ _ _ _ _ => True) (fun _ U o U' => ∃ v L, o = .returned v ∧ own_q_own_getw Z this p1 a n k f z h0 n0 v U'.heap L ∧ FrameEnd U o U' L ({ frames := 0, cells := 0, slots := 0, locals := 0 } : Room).cells ({ frames := 0, cells := 0, slots := 0, locals := 0 } : Room).slots) := by
  refine MetFree.of_bodySF (plainFor_of_name own_pn_SlotArray) hisR ?_
  intro p e s m args below meth c T0 Bd hml0 hP hK
  obtain ⟨rfl, hZ, hh⟩ := hP
  have hx := Bd.exec
  have hby := Bd.bytes
  have hml : c.maxLocals = 2 := hml0
  have hown : s.vm.findClass "com/example/tallymark/tallymark/SlotArray" = some m.cls := findClass_of_methodNamed Bd.named
  have hnm := (name_of_methodNamed Bd.named Bd.method).1
  have hret : meth.sig.returnType = (some .int) := Bd.returns
  have hlk : meth.locks = false := BodyLoose.notSynchronized Bd
  have X0 : Stand p l e ({ frames := 0, cells := 0, slots := 0, locals := 0 } : Room) s m #[(.ref this), (.int p1)] below meth c T0 [] 0 0 := Stand.of_body Bd
  have e0 : T0.heap = h0 := by rw [← hh, Bd.state]; rfl
  have N0 := Fr.nil n0
  refine own_start (own_ef4 m this p1) (Q := fun (v : Option Value) (h : Heap) (L : List Loc) => v = some (.int (z - (1 : Int32))) ∧ Fr n0 L ∧ h = h0) (k := 0) (j := 0) ?_
  show own_Go p e below T0 (mkF m 0 #[.val (.ref this), .val (.int p1)] []) _
  refine own_s_aloadN X0.here hx (hb hby own_d4_0) rfl rfl ?_
  obtain ⟨T27, X27, e27, st27⟩ := getF X0 hx hZ hown (host := "") (Or.inl (hw _ (List.mem_of_getElem? (i := 17) rfl))) Via.refl e0 F_this_narrow (g := (mkF m 1 #[.val (.ref this), .val (.int p1)] [(.ref this)])) rfl rfl (hb hby own_d4_1)
  refine own_by st27 ?_
  show own_Go p e below T27 (mkF m 4 #[.val (.ref this), .val (.int p1)] [.null]) _
  refine own_by (fun tq_ kq_ => XS.ifnullYes X27.here hx rfl (pc0 := 4) (pc' := 16) rfl (hb hby own_d4_4) rfl (by decide) (by decide) kq_) ?_
  show own_Go p e below T27 (mkF m 16 #[.val (.ref this), .val (.int p1)] []) _
  refine own_s_aloadN X27.here hx (hb hby own_d4_16) rfl rfl ?_
  obtain ⟨T28, X28, e28, st28⟩ := getF X27 hx hZ hown (host := "") (Or.inl (hw _ (List.mem_of_getElem? (i := 30) rfl))) Via.refl e27 F_this_wide (g := (mkF m 17 #[.val (.ref this), .val (.int p1)] [(.ref this)])) rfl rfl (hb hby own_d4_17)
  refine own_by st28 ?_
  show own_Go p e below T28 (mkF m 20 #[.val (.ref this), .val (.int p1)] [(.ref a)]) _
  refine own_s_iloadN X28.here hx (hb hby own_d4_20) rfl ?_
  refine own_by (fun tq_ kq_ => own_ldI X28 hx hZ e28 A_a (k := k) (v := (.int z)) hj hk hv (g := (mkF m 21 #[.val (.ref this), .val (.int p1)] [(.int p1), (.ref a)])) rfl rfl (hb hby own_d4_21) tq_ kq_) ?_
  show own_Go p e below T28 (mkF m 22 #[.val (.ref this), .val (.int p1)] [(.int z)]) _
  refine own_s_iconst X28.here hx (1 : Int32) (hb hby own_d4_22) rfl ?_
  refine own_s_isub X28.here hx (hb hby own_d4_23) ?_
  refine own_retI X28 hx hret hlk (hb hby own_d4_24) (by decide) (by decide) ?_
  exact ⟨rfl, N0, e28⟩
def own_q_own_setw (Z : State) (this : Addr) (p1 : Int32) (p2 : Int32) (a : Addr) (n k : Nat) (f : Nat → Value) (h0 : Heap) (n0 : Nat) (v : Option Value) (h : Heap) (L : List Loc) : Prop := v = none ∧ Fr n0 L ∧ Keep h0 h [a] ∧ own_Av Z h a .int n (own_upd f k (.int (p2 + (1 : Int32))))
set_option maxRecDepth 65536 in
set_option maxHeartbeats 40000000 in
theorem own_setw (l : Launch) (Z : State) (a0 : Array Value) (hw : ∀ d ∈ tables_1, d.before a0 Z = true) (ws : List Jvm.Cond) (this : Addr) (p1 : Int32) (p2 : Int32) (a : Addr) (n k : Nat) (f : Nat → Value) (h0 : Heap) (n0 : Nat) (Z0 : n0 ≤ h0.size) (hj : own_At p1 k) (hk : k < n) (F_this_wide : Fld Z h0 this "com/example/tallymark/tallymark/SlotArray" "wide" "[I" (.ref a)) (F_this_narrow : Fld Z h0 this "com/example/tallymark/tallymark/SlotArray" "narrow" "[C" .null) (A_a : own_Av Z h0 a .int n f) (ge_a : n0 ≤ a) (ne_this_a : this ≠ a) :
    MetFree l (⟨"com/example/tallymark/tallymark/SlotArray", "set", "(II)V"⟩ : MethodName) (head1 (Jvm.Cond.code (⟨"com/example/tallymark/tallymark/SlotArray", "set", "(II)V"⟩ : MethodName) prog_20_method_4_code 3 none :: ws) ({ frames := 0, cells := 0, slots := 0, locals := 0 } : Room)) (fun a U => a = #[(.ref this), (.int p1), (.int p2)] ∧ Z.Warmed39 U.vm ∧ U.heap = h0) (fun _ _ _ _ _ => True) (fun _ U o U' => ∃ v L, o = .returned v ∧ own_q_own_setw Z this p1 p2 a n k f h0 n0 v U'.heap L ∧ FrameEnd U o U' L ({ frames := 0, cells := 0, slots := 0, locals := 0 } : Room).cells ({ frames := 0, cells := 0, slots := 0, locals := 0 } : Room).slots) := by
  refine MetFree.of_bodySF (plainFor_of_name own_pn_SlotArray) hisR ?_
  intro p e s m args below meth c T0 Bd hml0 hP hK
  obtain ⟨rfl, hZ, hh⟩ := hP
  have hx := Bd.exec
  have hby := Bd.bytes
  have hml : c.maxLocals = 3 := hml0
  have hown : s.vm.findClass "com/example/tallymark/tallymark/SlotArray" = some m.cls := findClass_of_methodNamed Bd.named
  have hnm := (name_of_methodNamed Bd.named Bd.method).1
  have hret : meth.sig.returnType = none := Bd.returns
  have hlk : meth.locks = false := BodyLoose.notSynchronized Bd
  have X0 : Stand p l e ({ frames := 0, cells := 0, slots := 0, locals := 0 } : Room) s m #[(.ref this), (.int p1), (.int p2)] below meth c T0 [] 0 0 := Stand.of_body Bd
  have e0 : T0.heap = h0 := by rw [← hh, Bd.state]; rfl
  have N0 := Fr.nil n0
  refine own_start (own_ef5 m this p1 p2) (Q := fun (v : Option Value) (h : Heap) (L : List Loc) => v = none ∧ Fr n0 L ∧ Keep h0 h [a] ∧ own_Av Z h a .int n (own_upd f k (.int (p2 + (1 : Int32))))) (k := 0) (j := 0) ?_
  show own_Go p e below T0 (mkF m 0 #[.val (.ref this), .val (.int p1), .val (.int p2)] []) _
  have K0 := Keep.refl h0 [a]
  refine own_s_aloadN X0.here hx (hb hby own_d5_0) rfl rfl ?_
  obtain ⟨T29, X29, e29, st29⟩ := getF X0 hx hZ hown (host := "") (Or.inl (hw _ (List.mem_of_getElem? (i := 17) rfl))) Via.refl e0 F_this_narrow (g := (mkF m 1 #[.val (.ref this), .val (.int p1), .val (.int p2)] [(.ref this)])) rfl rfl (hb hby own_d5_1)
  refine own_by st29 ?_
  show own_Go p e below T29 (mkF m 4 #[.val (.ref this), .val (.int p1), .val (.int p2)] [.null]) _
  refine own_by (fun tq_ kq_ => XS.ifnullYes X29.here hx rfl (pc0 := 4) (pc' := 20) rfl (hb hby own_d5_4) rfl (by decide) (by decide) kq_) ?_
  show own_Go p e below T29 (mkF m 20 #[.val (.ref this), .val (.int p1), .val (.int p2)] []) _
  refine own_s_aloadN X29.here hx (hb hby own_d5_20) rfl rfl ?_
  obtain ⟨T30, X30, e30, st30⟩ := getF X29 hx hZ hown (host := "") (Or.inl (hw _ (List.mem_of_getElem? (i := 30) rfl))) Via.refl e29 F_this_wide (g := (mkF m 21 #[.val (.ref this), .val (.int p1), .val (.int p2)] [(.ref this)])) rfl rfl (hb hby own_d5_21)
  refine own_by st30 ?_
  show own_Go p e below T30 (mkF m 24 #[.val (.ref this), .val (.int p1), .val (.int p2)] [(.ref a)]) _
  refine own_s_iloadN X30.here hx (hb hby own_d5_24) rfl ?_
  refine own_s_iloadN X30.here hx (hb hby own_d5_25) rfl ?_
  refine own_s_iconst X30.here hx (1 : Int32) (hb hby own_d5_26) rfl ?_
  refine own_s_iadd X30.here hx (hb hby own_d5_27) ?_
  obtain ⟨T31, h31, X31, e31, W31, fa31, st31⟩ := own_stI X30 hx hZ e30 A_a (k := k) hj hk (g := (mkF m 28 #[.val (.ref this), .val (.int p1), .val (.int p2)] [(.int (p2 + (1 : Int32))), (.int p1), (.ref a)])) rfl rfl (hb hby own_d5_28)
  have f32 := F_this_wide.other W31 (Or.inl ne_this_a)
  have f33 := F_this_narrow.other W31 (Or.inl ne_this_a)
  have N31 := Fr.snoc X31 N0 ge_a
  have SZ31 : n0 ≤ h31.size := by rw [W31.size]; exact Z0
  have K31 := K0.wr W31 (Or.inl (List.mem_of_getElem? (i := 0) rfl))
  refine own_by st31 ?_
  show own_Go p e below T31 (mkF m 29 #[.val (.ref this), .val (.int p1), .val (.int p2)] []) _
  refine own_retV X31 hx hret hlk (hb hby own_d5_29) (by decide) (by decide) ?_
  rw [e31]
  exact ⟨rfl, N31, K31, fa31⟩
theorem own_rg (u : Int32) (hu : 0 ≤ u.toInt) : ((u.toInt64) + (1 : Int64)).toInt = u.toInt + 1 := by
  have := u.toInt_lt
  have e : u.toInt64.toInt = u.toInt := Jvm.Kit.i64_of_i32 u
  have c1 : (1 : Int64).toInt = 1 := by decide
  rw [Jvm.Kit.i64_add (by rw [e, c1]; omega) (by rw [e, c1]; omega), e, c1]
theorem own_nz (u : Int32) (hu : 0 ≤ u.toInt) : ((u.toInt64) + (1 : Int64)) ≠ 0 := fun q => by
  have := own_rg u hu
  rw [q, show (0 : Int64).toInt = 0 from by decide] at this
  omega
def own_pick (u0 u1 : Int32) : Int32 := (((((u1.toInt64) &&& (2147483647 : Int64)) % ((u0.toInt64) + (1 : Int64))).toInt32) - (1 : Int32))
theorem own_d1_0 : decode method_3_code 0 = .ok (.iload_n 0, 1) := by decide +kernel
theorem own_d1_1 : decode method_3_code 1 = .ok (.i2l, 1) := by decide +kernel
theorem own_d1_2 : decode method_3_code 2 = .ok (.lconst 1, 1) := by decide +kernel
theorem own_d1_3 : decode method_3_code 3 = .ok (.ladd, 1) := by decide +kernel
theorem own_d1_4 : decode method_3_code 4 = .ok (.lstore_n 2, 1) := by decide +kernel
theorem own_d1_5 : decode method_3_code 5 = .ok (.iload_n 1, 1) := by decide +kernel
theorem own_d1_6 : decode method_3_code 6 = .ok (.i2l, 1) := by decide +kernel
theorem own_d1_7 : decode method_3_code 7 = .ok (.ldc2_w 26, 3) := by decide +kernel
theorem own_d1_10 : decode method_3_code 10 = .ok (.land, 1) := by decide +kernel
theorem own_d1_11 : decode method_3_code 11 = .ok (.lload_n 2, 1) := by decide +kernel
theorem own_d1_12 : decode method_3_code 12 = .ok (.lrem, 1) := by decide +kernel
theorem own_d1_13 : decode method_3_code 13 = .ok (.l2i, 1) := by decide +kernel
theorem own_d1_14 : decode method_3_code 14 = .ok (.iconst 1, 1) := by decide +kernel
theorem own_d1_15 : decode method_3_code 15 = .ok (.isub, 1) := by decide +kernel
theorem own_d1_16 : decode method_3_code 16 = .ok (.ireturn, 1) := by decide +kernel
theorem own_pn_SlotArrayGetPinLaw : plainName "com/example/tallymark/tallymark/SlotArrayGetPinLaw" = true := by first | (simp [plainName, overriddenIn]; done) | decide +kernel
theorem own_ef1 (m : MethodId) (u0 : Int32) (u1 : Int32) : entryFrame m #[(.int u0), (.int u1)] 4 = mkF m 0 #[.val (.int u0), .val (.int u1), .unset, .unset] [] := by first | (simp [entryFrame, mkF, argsToLocals, Value.category]; done) | rfl
def own_q_own_r1 (Z : State) (u0 : Int32) (u1 : Int32) (h0 : Heap) (n0 : Nat) (v : Option Value) (h : Heap) (L : List Loc) : Prop := v = some (.int (own_pick u0 u1)) ∧ Fr n0 L ∧ h = h0
set_option maxRecDepth 65536 in
set_option maxHeartbeats 40000000 in
theorem own_r1 (l : Launch) (Z : State) (a0 : Array Value) (hw : ∀ d ∈ tables_1, d.before a0 Z = true) (ws : List Jvm.Cond) (u0 : Int32) (u1 : Int32) (h0 : Heap) (n0 : Nat) (Z0 : n0 ≤ h0.size) (hu : 0 ≤ u0.toInt) :
    MetFree l (⟨"com/example/tallymark/tallymark/SlotArrayGetPinLaw", "pick", "(II)I"⟩ : MethodName) (head1 (Jvm.Cond.code (⟨"com/example/tallymark/tallymark/SlotArrayGetPinLaw", "pick", "(II)I"⟩ : MethodName) method_3_code 4 (some .int) :: ws) ({ frames := 0, cells := 0, slots := 0, locals := 0 } : Room)) (fun a U => a = #[(.int u0), (.int u1)] ∧ Z.Warmed39 U.vm ∧ U.heap = h0) (fun _ _ _ _ _ => True) (fun _ U o U' => ∃ v L, o = .returned v ∧ own_q_own_r1 Z u0 u1 h0 n0 v U'.heap L ∧ FrameEnd U o U' L ({ frames := 0, cells := 0, slots := 0, locals := 0 } : Room).cells ({ frames := 0, cells := 0, slots := 0, locals := 0 } : Room).slots) := by
  refine MetFree.of_bodySF (plainFor_of_name own_pn_SlotArrayGetPinLaw) hisR ?_
  intro p e s m args below meth c T0 Bd hml0 hP hK
  obtain ⟨rfl, hZ, hh⟩ := hP
  have hx := Bd.exec
  have hby := Bd.bytes
  have hml : c.maxLocals = 4 := hml0
  have hown : s.vm.findClass "com/example/tallymark/tallymark/SlotArrayGetPinLaw" = some m.cls := findClass_of_methodNamed Bd.named
  have hnm := (name_of_methodNamed Bd.named Bd.method).1
  have hret : meth.sig.returnType = (some .int) := Bd.returns
  have hlk : meth.locks = false := BodyLoose.notSynchronized Bd
  have X0 : Stand p l e ({ frames := 0, cells := 0, slots := 0, locals := 0 } : Room) s m #[(.int u0), (.int u1)] below meth c T0 [] 0 0 := Stand.of_body Bd
  have e0 : T0.heap = h0 := by rw [← hh, Bd.state]; rfl
  have N0 := Fr.nil n0
  refine own_start (own_ef1 m u0 u1) (Q := fun (v : Option Value) (h : Heap) (L : List Loc) => v = some (.int (own_pick u0 u1)) ∧ Fr n0 L ∧ h = h0) (k := 0) (j := 0) ?_
  show own_Go p e below T0 (mkF m 0 #[.val (.int u0), .val (.int u1), .unset, .unset] []) _
  refine own_s_iloadN X0.here hx (hb hby own_d1_0) rfl ?_
  refine own_s_i2l X0.here hx (hb hby own_d1_1) ?_
  refine own_s_lconst X0.here hx (1 : Int64) (hb hby own_d1_2) rfl ?_
  refine own_s_ladd X0.here hx (hb hby own_d1_3) ?_
  refine own_s_lstoreN X0.here hx #[.val (.int u0), .val (.int u1), .val (.long ((u0.toInt64) + (1 : Int64))), .second] (hb hby own_d1_4) rfl ?_
  refine own_s_iloadN X0.here hx (hb hby own_d1_5) rfl ?_
  refine own_s_i2l X0.here hx (hb hby own_d1_6) ?_
  refine own_by (fun tq_ kq_ => X0.ldc2Long hx hown (mvT hZ (hw _ (List.mem_of_getElem? (i := 5) rfl))) (g := (mkF m 7 #[.val (.int u0), .val (.int u1), .val (.long ((u0.toInt64) + (1 : Int64))), .second] [(.long (u1.toInt64))])) rfl (hb hby own_d1_7) tq_ kq_) ?_
  show own_Go p e below T0 (mkF m 10 #[.val (.int u0), .val (.int u1), .val (.long ((u0.toInt64) + (1 : Int64))), .second] [(.long (2147483647 : Int64)), (.long (u1.toInt64))]) _
  refine own_s_land X0.here hx (hb hby own_d1_10) ?_
  refine own_s_lloadN X0.here hx (hb hby own_d1_11) rfl ?_
  refine own_by (fun tq_ kq_ => own_lrem X0 hx rfl (hb hby own_d1_12) rfl (own_nz u0 hu) kq_) ?_
  show own_Go p e below T0 (mkF m 13 #[.val (.int u0), .val (.int u1), .val (.long ((u0.toInt64) + (1 : Int64))), .second] [(.long (((u1.toInt64) &&& (2147483647 : Int64)) % ((u0.toInt64) + (1 : Int64))))]) _
  refine own_s_l2i X0.here hx (hb hby own_d1_13) ?_
  refine own_s_iconst X0.here hx (1 : Int32) (hb hby own_d1_14) rfl ?_
  refine own_s_isub X0.here hx (hb hby own_d1_15) ?_
  refine own_retI X0 hx hret hlk (hb hby own_d1_16) (by decide) (by decide) ?_
  exact ⟨rfl, N0, e0⟩
theorem own_pick_b (u0 u1 : Int32) (hu : 0 ≤ u0.toInt) : (own_pick u0 u1 + (1 : Int32)).toInt = (u1.toInt % 2 ^ 31) % (u0.toInt + 1) := by
  unfold own_pick
  have hb := u0.toInt_lt
  have e1 : ((u1.toInt64) &&& (2147483647 : Int64)).toInt = u1.toInt64.toInt % 2 ^ 31 := Jvm.Kit.i64_mask _ _ (k := 31) (by decide) (by decide)
  rw [Jvm.Kit.i64_of_i32] at e1
  have e2 : (((u1.toInt64) &&& (2147483647 : Int64)) % ((u0.toInt64) + (1 : Int64))).toInt = (u1.toInt % 2 ^ 31) % (u0.toInt + 1) := by
    rw [← own_lrem_eq, Jvm.Kit.i64_rem_nonneg (by omega), e1, own_rg u0 hu]
  have h1 : 0 ≤ (u1.toInt % 2 ^ 31) % (u0.toInt + 1) := Int.emod_nonneg _ (by omega)
  have h2 : (u1.toInt % 2 ^ 31) % (u0.toInt + 1) < u0.toInt + 1 := Int.emod_lt_of_pos _ (by omega)
  rw [Int32.sub_add_cancel, Jvm.Kit.i32_of_i64 (by omega) (by omega), e2]
theorem own_pick_n (u0 u1 : Int32) (hu : 0 ≤ u0.toInt) (hm : ¬ (65535 : Int32) < u0) : nar .char ((own_pick u0 u1 + (1 : Int32)).toUInt32.toUInt16.toUInt32.toInt32) = (own_pick u0 u1 + (1 : Int32)) := by
  have e := own_pick_b u0 u1 hu
  have h1 : 0 ≤ (u1.toInt % 2 ^ 31) % (u0.toInt + 1) := Int.emod_nonneg _ (by omega)
  have h2 : (u1.toInt % 2 ^ 31) % (u0.toInt + 1) < u0.toInt + 1 := Int.emod_lt_of_pos _ (by omega)
  rw [Int32.lt_iff_toInt_lt, show (65535 : Int32).toInt = 65535 from by decide] at hm
  exact own_char (by omega) (by omega)
theorem own_cb (x : Int32) : 0 ≤ (x &&& (2147483647 : Int32)).toInt := by
  have e1 : (x &&& (2147483647 : Int32)).toInt = x.toInt % 2 ^ 31 := Jvm.Kit.i32_mask x _ (k := 31) (by decide) (by decide)
  omega
theorem own_lb (x : Int32) : 1 ≤ ((x &&& (7 : Int32)) + (1 : Int32)).toInt ∧ ((x &&& (7 : Int32)) + (1 : Int32)).toInt ≤ 8 := by
  have e1 : (x &&& (7 : Int32)).toInt = x.toInt % 2 ^ 3 := Jvm.Kit.i32_mask x _ (k := 3) (by decide) (by decide)
  have c1 : (1 : Int32).toInt = 1 := by decide
  rw [Jvm.Kit.i32_add (by rw [e1, c1]; omega) (by rw [e1, c1]; omega), e1, c1]
  omega
theorem own_nzl {n : Int32} (h : 1 ≤ n.toInt) : n ≠ 0 := fun q => by rw [q, show (0 : Int32).toInt = 0 from by decide] at h; omega
theorem own_ib (x n : Int32) (h : 1 ≤ n.toInt) : own_At ((x &&& (2147483647 : Int32)) % n) ((x &&& (2147483647 : Int32)) % n).toNatClampNeg ∧ ((x &&& (2147483647 : Int32)) % n).toNatClampNeg < n.toNatClampNeg := by
  have e1 : (x &&& (2147483647 : Int32)).toInt = x.toInt % 2 ^ 31 := Jvm.Kit.i32_mask x _ (k := 31) (by decide) (by decide)
  have e2 : ((x &&& (2147483647 : Int32)) % n).toInt = (x.toInt % 2 ^ 31) % n.toInt := by rw [Jvm.Kit.i32_rem_nonneg (by omega), e1]
  have h1 : 0 ≤ (x.toInt % 2 ^ 31) % n.toInt := Int.emod_nonneg _ (by omega)
  have h2 : (x.toInt % 2 ^ 31) % n.toInt < n.toInt := Int.emod_lt_of_pos _ (by omega)
  refine ⟨⟨?_, rfl⟩, ?_⟩
  · rw [Int32.lt_iff_toInt_lt, e2, show (0 : Int32).toInt = 0 from by decide]; omega
  · simp only [Int32.toNatClampNeg, e2]; omega
theorem own_idx {i j : Int32} {ki kj : Nat} (hi : own_At i ki) (hj : own_At j kj) (h : kj = ki) : j = i := by
  have a := hi.1; have b := hj.1; have c := hi.2; have d := hj.2
  apply Int32.toInt_inj.mp
  simp only [Int32.lt_iff_toInt_lt, Int32.toNatClampNeg, show (0 : Int32).toInt = 0 from by decide] at a b c d
  omega
theorem own_len8 {n : Int32} (h1 : 1 ≤ n.toInt) (h2 : n.toInt ≤ 8) : ¬ n < 0 ∧ n.toNatClampNeg ≤ 8 := by
  rw [Int32.lt_iff_toInt_lt, show (0 : Int32).toInt = 0 from by decide]
  simp only [Int32.toNatClampNeg]
  omega
theorem own_as (s : Int32) : s + (1 : Int32) - (1 : Int32) = s := Int32.add_sub_cancel s 1
theorem own_ml : maxLocals = 14 := rfl
theorem own_ef0 (m : MethodId) (c0 : Int32) (l0 : Int32) (i0 : Int32) (s0 : Int32) (j0 : Int32) (t0 : Int32) : entryFrame m #[(.int c0), (.int l0), (.int i0), (.int s0), (.int j0), (.int t0)] maxLocals = mkF m 0 #[.val (.int c0), .val (.int l0), .val (.int i0), .val (.int s0), .val (.int j0), .val (.int t0), .unset, .unset, .unset, .unset, .unset, .unset, .unset, .unset] [] := by first | (simp [entryFrame, mkF, argsToLocals, Value.category, maxLocals]; done) | rfl
theorem own_pd_0 : parseMethodDescriptor "(II)I" = some ⟨[.int, .int], some .int⟩ := by decide +kernel
theorem own_pd_1 : parseMethodDescriptor "(II)V" = some ⟨[.int, .int], none⟩ := by decide +kernel
theorem own_pd_3 : parseMethodDescriptor "(I)I" = some ⟨[.int], some .int⟩ := by decide +kernel
def own_q_own_r0 (Z : State) (c0 : Int32) (l0 : Int32) (i0 : Int32) (s0 : Int32) (j0 : Int32) (t0 : Int32) (h0 : Heap) (n0 : Nat) (v : Option Value) (h : Heap) (L : List Loc) : Prop := v = some (.int 1) ∧ Fr n0 L
set_option maxRecDepth 65536 in
set_option maxHeartbeats 40000000 in
theorem own_r0 (l : Launch) (Z : State) (a0 : Array Value) (hw : ∀ d ∈ tables_1, d.before a0 Z = true) (ws : List Jvm.Cond) (c0 : Int32) (l0 : Int32) (i0 : Int32) (s0 : Int32) (j0 : Int32) (t0 : Int32) (h0 : Heap) (n0 : Nat) (Z0 : n0 ≤ h0.size) :
    MetFree l x (head1 (Jvm.Cond.code x code maxLocals ret :: ws) room_1) (fun a U => a = #[(.int c0), (.int l0), (.int i0), (.int s0), (.int j0), (.int t0)] ∧ Z.Warmed39 U.vm ∧ U.heap = h0) (fun _ _ _ _ _ => True) (fun _ U o U' => ∃ v L, o = .returned v ∧ own_q_own_r0 Z c0 l0 i0 s0 j0 t0 h0 n0 v U'.heap L ∧ FrameEnd U o U' L 16 128) := by
  refine MetFree.of_bodySF (plainFor_of_name own_pn_SlotArrayGetPinLaw) hisR ?_
  intro p e s m args below meth c T0 Bd hml0 hP hK
  obtain ⟨rfl, hZ, hh⟩ := hP
  have hx := Bd.exec
  have hby := Bd.bytes
  have hml : c.maxLocals = 14 := hml0
  have hown : s.vm.findClass "com/example/tallymark/tallymark/SlotArrayGetPinLaw" = some m.cls := findClass_of_methodNamed Bd.named
  have hnm := (name_of_methodNamed Bd.named Bd.method).1
  have hret : meth.sig.returnType = (some .boolean) := Bd.returns
  have hlk : meth.locks = false := BodyLoose.notSynchronized Bd
  have X0 : Stand p l e room_1 s m #[(.int c0), (.int l0), (.int i0), (.int s0), (.int j0), (.int t0)] below meth c T0 [] 0 0 := Stand.of_body Bd
  have e0 : T0.heap = h0 := by rw [← hh, Bd.state]; rfl
  have N0 := Fr.nil n0
  refine own_start (own_ef0 m c0 l0 i0 s0 j0 t0) (Q := fun (v : Option Value) (h : Heap) (L : List Loc) => v = some (.int 1) ∧ Fr n0 L) (k := 16) (j := 128) ?_
  show own_Go p e below T0 (mkF m 0 #[.val (.int c0), .val (.int l0), .val (.int i0), .val (.int s0), .val (.int j0), .val (.int t0), .unset, .unset, .unset, .unset, .unset, .unset, .unset, .unset] []) _
  refine own_s_iloadN X0.here hx (hb hby at_0) rfl ?_
  refine own_by (fun tq_ kq_ => X0.ldcInt hx hown (mvT hZ (hw _ (List.mem_of_getElem? (i := 0) rfl))) (g := (mkF m 1 #[.val (.int c0), .val (.int l0), .val (.int i0), .val (.int s0), .val (.int j0), .val (.int t0), .unset, .unset, .unset, .unset, .unset, .unset, .unset, .unset] [(.int c0)])) rfl (hb hby at_1) tq_ kq_) ?_
  show own_Go p e below T0 (mkF m 3 #[.val (.int c0), .val (.int l0), .val (.int i0), .val (.int s0), .val (.int j0), .val (.int t0), .unset, .unset, .unset, .unset, .unset, .unset, .unset, .unset] [(.int (2147483647 : Int32)), (.int c0)]) _
  refine own_s_iand X0.here hx (hb hby at_3) ?_
  refine own_s_istore X0.here hx #[.val (.int c0), .val (.int l0), .val (.int i0), .val (.int s0), .val (.int j0), .val (.int t0), .val (.int (c0 &&& (2147483647 : Int32))), .unset, .unset, .unset, .unset, .unset, .unset, .unset] (hb hby at_4) rfl ?_
  have hcb := own_cb c0
  generalize hcp : (c0 &&& (2147483647 : Int32)) = cp at hcb
  try rw [hcp]
  show own_Go p e below T0 (mkF m 6 #[.val (.int c0), .val (.int l0), .val (.int i0), .val (.int s0), .val (.int j0), .val (.int t0), .val (.int cp), .unset, .unset, .unset, .unset, .unset, .unset, .unset] []) _
  refine own_s_iloadN X0.here hx (hb hby at_6) rfl ?_
  refine own_s_bipush X0.here hx (7 : Int32) (hb hby at_7) rfl ?_
  refine own_s_iand X0.here hx (hb hby at_9) ?_
  refine own_s_iconst X0.here hx (1 : Int32) (hb hby at_10) rfl ?_
  refine own_s_iadd X0.here hx (hb hby at_11) ?_
  refine own_s_istore X0.here hx #[.val (.int c0), .val (.int l0), .val (.int i0), .val (.int s0), .val (.int j0), .val (.int t0), .val (.int cp), .val (.int ((l0 &&& (7 : Int32)) + (1 : Int32))), .unset, .unset, .unset, .unset, .unset, .unset] (hb hby at_12) rfl ?_
  have hlb := own_lb l0
  generalize hln : ((l0 &&& (7 : Int32)) + (1 : Int32)) = ln at hlb
  try rw [hln]
  show own_Go p e below T0 (mkF m 14 #[.val (.int c0), .val (.int l0), .val (.int i0), .val (.int s0), .val (.int j0), .val (.int t0), .val (.int cp), .val (.int ln), .unset, .unset, .unset, .unset, .unset, .unset] []) _
  refine own_s_iloadN X0.here hx (hb hby at_14) rfl ?_
  refine own_by (fun tq_ kq_ => X0.ldcInt hx hown (mvT hZ (hw _ (List.mem_of_getElem? (i := 0) rfl))) (g := (mkF m 15 #[.val (.int c0), .val (.int l0), .val (.int i0), .val (.int s0), .val (.int j0), .val (.int t0), .val (.int cp), .val (.int ln), .unset, .unset, .unset, .unset, .unset, .unset] [(.int i0)])) rfl (hb hby at_15) tq_ kq_) ?_
  show own_Go p e below T0 (mkF m 17 #[.val (.int c0), .val (.int l0), .val (.int i0), .val (.int s0), .val (.int j0), .val (.int t0), .val (.int cp), .val (.int ln), .unset, .unset, .unset, .unset, .unset, .unset] [(.int (2147483647 : Int32)), (.int i0)]) _
  refine own_s_iand X0.here hx (hb hby at_17) ?_
  refine own_s_iload X0.here hx (hb hby at_18) rfl ?_
  refine own_by (fun tq_ kq_ => iremM X0 hx rfl (hb hby at_20) rfl (own_nzl hlb.1) kq_) ?_
  show own_Go p e below T0 (mkF m 21 #[.val (.int c0), .val (.int l0), .val (.int i0), .val (.int s0), .val (.int j0), .val (.int t0), .val (.int cp), .val (.int ln), .unset, .unset, .unset, .unset, .unset, .unset] [(.int ((i0 &&& (2147483647 : Int32)) % ln))]) _
  refine own_s_istore X0.here hx #[.val (.int c0), .val (.int l0), .val (.int i0), .val (.int s0), .val (.int j0), .val (.int t0), .val (.int cp), .val (.int ln), .val (.int ((i0 &&& (2147483647 : Int32)) % ln)), .unset, .unset, .unset, .unset, .unset] (hb hby at_21) rfl ?_
  have hi := own_ib i0 ln hlb.1
  generalize hiq : ((i0 &&& (2147483647 : Int32)) % ln) = iq at hi
  try rw [hiq]
  show own_Go p e below T0 (mkF m 23 #[.val (.int c0), .val (.int l0), .val (.int i0), .val (.int s0), .val (.int j0), .val (.int t0), .val (.int cp), .val (.int ln), .val (.int iq), .unset, .unset, .unset, .unset, .unset] []) _
  refine own_s_iload X0.here hx (hb hby at_23) rfl ?_
  refine own_by (fun tq_ kq_ => X0.ldcInt hx hown (mvT hZ (hw _ (List.mem_of_getElem? (i := 0) rfl))) (g := (mkF m 25 #[.val (.int c0), .val (.int l0), .val (.int i0), .val (.int s0), .val (.int j0), .val (.int t0), .val (.int cp), .val (.int ln), .val (.int iq), .unset, .unset, .unset, .unset, .unset] [(.int j0)])) rfl (hb hby at_25) tq_ kq_) ?_
  show own_Go p e below T0 (mkF m 27 #[.val (.int c0), .val (.int l0), .val (.int i0), .val (.int s0), .val (.int j0), .val (.int t0), .val (.int cp), .val (.int ln), .val (.int iq), .unset, .unset, .unset, .unset, .unset] [(.int (2147483647 : Int32)), (.int j0)]) _
  refine own_s_iand X0.here hx (hb hby at_27) ?_
  refine own_s_iload X0.here hx (hb hby at_28) rfl ?_
  refine own_by (fun tq_ kq_ => iremM X0 hx rfl (hb hby at_30) rfl (own_nzl hlb.1) kq_) ?_
  show own_Go p e below T0 (mkF m 31 #[.val (.int c0), .val (.int l0), .val (.int i0), .val (.int s0), .val (.int j0), .val (.int t0), .val (.int cp), .val (.int ln), .val (.int iq), .unset, .unset, .unset, .unset, .unset] [(.int ((j0 &&& (2147483647 : Int32)) % ln))]) _
  refine own_s_istore X0.here hx #[.val (.int c0), .val (.int l0), .val (.int i0), .val (.int s0), .val (.int j0), .val (.int t0), .val (.int cp), .val (.int ln), .val (.int iq), .val (.int ((j0 &&& (2147483647 : Int32)) % ln)), .unset, .unset, .unset, .unset] (hb hby at_31) rfl ?_
  have hj := own_ib j0 ln hlb.1
  generalize hjq : ((j0 &&& (2147483647 : Int32)) % ln) = jq at hj
  try rw [hjq]
  show own_Go p e below T0 (mkF m 33 #[.val (.int c0), .val (.int l0), .val (.int i0), .val (.int s0), .val (.int j0), .val (.int t0), .val (.int cp), .val (.int ln), .val (.int iq), .val (.int jq), .unset, .unset, .unset, .unset] []) _
  refine own_s_iload X0.here hx (hb hby at_33) rfl ?_
  refine own_s_iloadN X0.here hx (hb hby at_35) rfl ?_
  obtain ⟨_, _, ⟨T34, L34, k34, n34⟩, -, X34, ⟨Lc34, hQ34, l34, y34, z34⟩, st34⟩ := Jvm.LawKit.callS X0 hx (y := (⟨"com/example/tallymark/tallymark/SlotArrayGetPinLaw", "pick", "(II)I"⟩ : MethodName)) hown (mvT hZ (hw _ (List.mem_of_getElem? (i := 1) rfl))) (mvT hZ (hw _ (List.mem_of_getElem? (i := 2) rfl))) (mvT hZ (hw _ (List.mem_of_getElem? (i := 3) rfl))) (mvT hZ (hw _ (List.mem_of_getElem? (i := 4) rfl))) (by decide) (backOf (W := 0) (own_r1 l Z a0 hw [] cp s0  h0 n0 Z0 hcb) hZ (hw _ (List.mem_of_getElem? (i := 4) rfl)) (hw _ (List.mem_of_getElem? (i := 3) rfl)) (by decide) (by decide)) (g := (mkF m 36 #[.val (.int c0), .val (.int l0), .val (.int i0), .val (.int s0), .val (.int j0), .val (.int t0), .val (.int cp), .val (.int ln), .val (.int iq), .val (.int jq), .unset, .unset, .unset, .unset] [(.int s0), (.int cp)])) rfl (by rw [hml]; rfl) (argsL := [(.int cp), (.int s0)]) (rest := []) (lenOf own_pd_0 rfl) rfl (by show 2 * 0 + _ ≤ _; exact Nat.le_of_eq rfl) (hb hby at_36) (fun _ _ => ⟨rfl, e0, (by decide : 0 + 0 ≤ _), (by decide : 0 + 0 ≤ _)⟩)
  dsimp only [Pt.U, Pt.locs, Pt.cells, Pt.slots] at X34 l34 y34 z34 st34 hQ34
  subst l34 y34 z34
  obtain ⟨rfl, N34q, e34⟩ := hQ34
  have N34 := Fr.app N0 N34q
  refine own_by st34 ?_
  show own_Go p e below T34 (mkF m 39 #[.val (.int c0), .val (.int l0), .val (.int i0), .val (.int s0), .val (.int j0), .val (.int t0), .val (.int cp), .val (.int ln), .val (.int iq), .val (.int jq), .unset, .unset, .unset, .unset] [(.int (own_pick cp s0))]) _
  refine own_s_istore X34.here hx #[.val (.int c0), .val (.int l0), .val (.int i0), .val (.int s0), .val (.int j0), .val (.int t0), .val (.int cp), .val (.int ln), .val (.int iq), .val (.int jq), .val (.int (own_pick cp s0)), .unset, .unset, .unset] (hb hby at_39) rfl ?_
  generalize hsv : (own_pick cp s0) = sv
  show own_Go p e below T34 (mkF m 41 #[.val (.int c0), .val (.int l0), .val (.int i0), .val (.int s0), .val (.int j0), .val (.int t0), .val (.int cp), .val (.int ln), .val (.int iq), .val (.int jq), .val (.int sv), .unset, .unset, .unset] []) _
  refine own_s_iload X34.here hx (hb hby at_41) rfl ?_
  refine own_s_iload X34.here hx (hb hby at_43) rfl ?_
  obtain ⟨_, _, ⟨T35, L35, k35, n35⟩, -, X35, ⟨Lc35, hQ35, l35, y35, z35⟩, st35⟩ := Jvm.LawKit.callS X34 hx (y := (⟨"com/example/tallymark/tallymark/SlotArrayGetPinLaw", "pick", "(II)I"⟩ : MethodName)) hown (mvT hZ (hw _ (List.mem_of_getElem? (i := 1) rfl))) (mvT hZ (hw _ (List.mem_of_getElem? (i := 2) rfl))) (mvT hZ (hw _ (List.mem_of_getElem? (i := 3) rfl))) (mvT hZ (hw _ (List.mem_of_getElem? (i := 4) rfl))) (by decide) (backOf (W := 0) (own_r1 l Z a0 hw [] cp t0  h0 n0 Z0 hcb) hZ (hw _ (List.mem_of_getElem? (i := 4) rfl)) (hw _ (List.mem_of_getElem? (i := 3) rfl)) (by decide) (by decide)) (g := (mkF m 45 #[.val (.int c0), .val (.int l0), .val (.int i0), .val (.int s0), .val (.int j0), .val (.int t0), .val (.int cp), .val (.int ln), .val (.int iq), .val (.int jq), .val (.int sv), .unset, .unset, .unset] [(.int t0), (.int cp)])) rfl (by rw [hml]; rfl) (argsL := [(.int cp), (.int t0)]) (rest := []) (lenOf own_pd_0 rfl) rfl (by show 2 * 0 + _ ≤ _; exact Nat.le_of_eq rfl) (hb hby at_45) (fun _ _ => ⟨rfl, e34, (by decide : 0 + 0 ≤ _), (by decide : 0 + 0 ≤ _)⟩)
  dsimp only [Pt.U, Pt.locs, Pt.cells, Pt.slots] at X35 l35 y35 z35 st35 hQ35
  subst l35 y35 z35
  obtain ⟨rfl, N35q, e35⟩ := hQ35
  have N35 := Fr.app N34 N35q
  refine own_by st35 ?_
  show own_Go p e below T35 (mkF m 48 #[.val (.int c0), .val (.int l0), .val (.int i0), .val (.int s0), .val (.int j0), .val (.int t0), .val (.int cp), .val (.int ln), .val (.int iq), .val (.int jq), .val (.int sv), .unset, .unset, .unset] [(.int (own_pick cp t0))]) _
  refine own_s_istore X35.here hx #[.val (.int c0), .val (.int l0), .val (.int i0), .val (.int s0), .val (.int j0), .val (.int t0), .val (.int cp), .val (.int ln), .val (.int iq), .val (.int jq), .val (.int sv), .val (.int (own_pick cp t0)), .unset, .unset] (hb hby at_48) rfl ?_
  generalize htv : (own_pick cp t0) = tv
  show own_Go p e below T35 (mkF m 50 #[.val (.int c0), .val (.int l0), .val (.int i0), .val (.int s0), .val (.int j0), .val (.int t0), .val (.int cp), .val (.int ln), .val (.int iq), .val (.int jq), .val (.int sv), .val (.int tv), .unset, .unset] []) _
  have hln8 := own_len8 hlb.1 hlb.2
  by_cases hji : jq = iq
  ·
    subst hji
    by_cases hm : (65535 : Int32) < cp
    ·
      obtain ⟨T36, h36, X36, e36, E36, A36, D36, -, st36⟩ := newO X35 hx hZ hown (hw _ (List.mem_of_getElem? (i := 6) rfl)) (hw _ (List.mem_of_getElem? (i := 7) rfl)) (hw _ (List.mem_of_getElem? (i := 8) rfl)) e35 (g := (mkF m 50 #[.val (.int c0), .val (.int l0), .val (.int i0), .val (.int s0), .val (.int j0), .val (.int t0), .val (.int cp), .val (.int ln), .val (.int jq), .val (.int jq), .val (.int sv), .val (.int tv), .unset, .unset] [])) rfl (hb hby at_50) (by decide) (by decide)
      obtain ⟨b36, g36⟩ : ∃ z, z = h0.size := ⟨_, rfl⟩
      rw [← g36] at A36 D36 st36
      have ge_b36 : n0 ≤ b36 := Nat.le_trans Z0 (Nat.le_of_eq g36.symm)
      have SZ36 : n0 ≤ h36.size := Nat.le_trans Z0 E36.1
      have f37 : Fld Z h36 b36 "com/example/tallymark/tallymark/SlotArray" "narrow" "[C" .null := D36 (Or.inl (hw _ (List.mem_of_getElem? (i := 18) rfl))) (ty := (.array .char)) (by decide)
      have f38 : Fld Z h36 b36 "com/example/tallymark/tallymark/SlotArray" "wide" "[I" .null := D36 (Or.inl (hw _ (List.mem_of_getElem? (i := 31) rfl))) (ty := (.array .int)) (by decide)
      refine own_by st36 ?_
      show own_Go p e below T36 (mkF m 53 #[.val (.int c0), .val (.int l0), .val (.int i0), .val (.int s0), .val (.int j0), .val (.int t0), .val (.int cp), .val (.int ln), .val (.int jq), .val (.int jq), .val (.int sv), .val (.int tv), .unset, .unset] [(.ref b36)]) _
      refine own_s_dup X36.here hx (hb hby at_53) rfl ?_
      refine own_s_iload X36.here hx (hb hby at_54) rfl ?_
      refine own_s_iload X36.here hx (hb hby at_56) rfl ?_
      obtain ⟨_, _, ⟨T39, L39, k39, n39⟩, -, X39, ⟨Lc39, hQ39, l39, y39, z39⟩, st39⟩ := X36.specialBack hx (y := (⟨"com/example/tallymark/tallymark/SlotArray", "<init>", "(II)V"⟩ : MethodName)) rfl hown (mvT hZ (hw _ (List.mem_of_getElem? (i := 9) rfl))) (mvT hZ (hw _ (List.mem_of_getElem? (i := 10) rfl))) (mvT hZ (hw _ (List.mem_of_getElem? (i := 11) rfl))) (by decide) (backOf (W := 1) (own_iniw l Z a0 hw [] b36 cp ln ln.toNatClampNeg h36 n0 SZ36 hm rfl hln8.1 hln8.2 A36 f37 f38 ge_b36) hZ (hw _ (List.mem_of_getElem? (i := 11) rfl)) (hw _ (List.mem_of_getElem? (i := 8) rfl)) (by decide) (by decide)) (g := (mkF m 58 #[.val (.int c0), .val (.int l0), .val (.int i0), .val (.int s0), .val (.int j0), .val (.int t0), .val (.int cp), .val (.int ln), .val (.int jq), .val (.int jq), .val (.int sv), .val (.int tv), .unset, .unset] [(.int ln), (.int cp), (.ref b36), (.ref b36)])) rfl (by rw [hml]; rfl) (Steps.refl _) (a := b36) (argsL := [(.int cp), (.int ln)]) (rest := [(.ref b36)]) (lenOf own_pd_1 rfl) rfl (by show 2 * 0 + _ ≤ _; exact Nat.le_of_eq rfl) (hb hby at_58) (fun _ _ => ⟨rfl, e36, (by decide : 1 + 1 ≤ _), (by decide : 2 + 8 ≤ _)⟩)
      dsimp only [Pt.U, Pt.locs, Pt.cells, Pt.slots] at X39 l39 y39 z39 st39 hQ39
      subst l39 y39 z39
      obtain ⟨rfl, N39q, K39, a39, ga39, na39, fn39, fa39, fz39⟩ := hQ39
      have N39 := Fr.app N35 N39q
      have f40 := A36.keep K39
      have SZ39 : n0 ≤ T39.heap.size := Nat.le_trans SZ36 K39.1
      refine own_by (fun t k => st39.trans k) ?_
      show own_Go p e below T39 (mkF m 61 #[.val (.int c0), .val (.int l0), .val (.int i0), .val (.int s0), .val (.int j0), .val (.int t0), .val (.int cp), .val (.int ln), .val (.int jq), .val (.int jq), .val (.int sv), .val (.int tv), .unset, .unset] [(.ref b36)]) _
      refine own_s_astore X39.here hx #[.val (.int c0), .val (.int l0), .val (.int i0), .val (.int s0), .val (.int j0), .val (.int t0), .val (.int cp), .val (.int ln), .val (.int jq), .val (.int jq), .val (.int sv), .val (.int tv), .val (.ref b36), .unset] (hb hby at_61) rfl rfl ?_
      refine own_s_aload X39.here hx (hb hby at_63) rfl rfl ?_
      refine own_s_iload X39.here hx (hb hby at_65) rfl ?_
      obtain ⟨cq41, kq41, q41a, q41b, q41c⟩ := isOf hZ rfl f40
      obtain ⟨_, _, ⟨T41, L41, k41, n41⟩, -, X41, ⟨Lc41, hQ41, l41, y41, z41⟩, st41⟩ := X39.virtualBack hx (y := (⟨"com/example/tallymark/tallymark/SlotArray", "get", "(I)I"⟩ : MethodName)) (z := (⟨"com/example/tallymark/tallymark/SlotArray", "get", "(I)I"⟩ : MethodName)) hown (mvT hZ (hw _ (List.mem_of_getElem? (i := 19) rfl))) (mvT hZ (hw _ (List.mem_of_getElem? (i := 20) rfl))) (notFace_of_selects (args := #[]) (mvT hZ (hw _ (List.mem_of_getElem? (i := 22) rfl)))) (mvT hZ (hw _ (List.mem_of_getElem? (i := 22) rfl))) (mvT hZ (hw _ (List.mem_of_getElem? (i := 21) rfl))) (by decide) (backOf (W := 0) (own_getw l Z a0 hw [] b36 jq a39 ln.toNatClampNeg jq.toNatClampNeg (fun _ => (.int (0 : Int32))) (0 : Int32) T39.heap n0 SZ39 hj.1 hj.2 rfl fn39 fz39 fa39) hZ (hw _ (List.mem_of_getElem? (i := 23) rfl)) (hw _ (List.mem_of_getElem? (i := 8) rfl)) (by decide) (by decide)) q41a q41c (g := (mkF m 67 #[.val (.int c0), .val (.int l0), .val (.int i0), .val (.int s0), .val (.int j0), .val (.int t0), .val (.int cp), .val (.int ln), .val (.int jq), .val (.int jq), .val (.int sv), .val (.int tv), .val (.ref b36), .unset] [(.int jq), (.ref b36)])) rfl (by rw [hml]; rfl) (Steps.refl _) (argsL := [(.int jq)]) (rest := []) (lenOf own_pd_3 rfl) rfl (by show 2 * 0 + _ ≤ _; exact Nat.le_of_eq rfl) (hb hby at_67) (fun _ _ => ⟨rfl, rfl, (by decide : 2 + 0 ≤ _), (by decide : 10 + 0 ≤ _)⟩)
      dsimp only [Pt.U, Pt.locs, Pt.cells, Pt.slots] at X41 l41 y41 z41 st41 hQ41
      subst l41 y41 z41
      obtain ⟨rfl, N41q, e41⟩ := hQ41
      have N41 := Fr.app N39 N41q
      refine own_by (fun t k => st41.trans k) ?_
      show own_Go p e below T41 (mkF m 70 #[.val (.int c0), .val (.int l0), .val (.int i0), .val (.int s0), .val (.int j0), .val (.int t0), .val (.int cp), .val (.int ln), .val (.int jq), .val (.int jq), .val (.int sv), .val (.int tv), .val (.ref b36), .unset] [(.int ((0 : Int32) - (1 : Int32)))]) _
      refine own_s_iconst X41.here hx (-1 : Int32) (hb hby at_70) rfl ?_
      refine own_s_icmpNo X41.here hx (hb hby at_71) (Jvm.Free.XT.ii_ne_f ((by decide))) ?_
      refine own_s_iconst X41.here hx (1 : Int32) (hb hby at_74) rfl ?_
      show own_Go p e below T41 (mkF m 75 #[.val (.int c0), .val (.int l0), .val (.int i0), .val (.int s0), .val (.int j0), .val (.int t0), .val (.int cp), .val (.int ln), .val (.int jq), .val (.int jq), .val (.int sv), .val (.int tv), .val (.ref b36), .unset] [(.int (1 : Int32))]) _
      refine own_s_goto X41.here hx 79 (hb hby at_75) (by decide) (by decide) ?_
      refine own_s_istore X41.here hx #[.val (.int c0), .val (.int l0), .val (.int i0), .val (.int s0), .val (.int j0), .val (.int t0), .val (.int cp), .val (.int ln), .val (.int jq), .val (.int jq), .val (.int sv), .val (.int tv), .val (.ref b36), .val (.int (1 : Int32))] (hb hby at_79) rfl ?_
      refine own_s_aload X41.here hx (hb hby at_81) rfl rfl ?_
      refine own_s_iload X41.here hx (hb hby at_83) rfl ?_
      refine own_s_iload X41.here hx (hb hby at_85) rfl ?_
      obtain ⟨cq42, kq42, q42a, q42b, q42c⟩ := isOf hZ e41 f40
      obtain ⟨_, _, ⟨T42, L42, k42, n42⟩, -, X42, ⟨Lc42, hQ42, l42, y42, z42⟩, st42⟩ := X41.virtualBack hx (y := (⟨"com/example/tallymark/tallymark/SlotArray", "set", "(II)V"⟩ : MethodName)) (z := (⟨"com/example/tallymark/tallymark/SlotArray", "set", "(II)V"⟩ : MethodName)) hown (mvT hZ (hw _ (List.mem_of_getElem? (i := 24) rfl))) (mvT hZ (hw _ (List.mem_of_getElem? (i := 25) rfl))) (notFace_of_selects (args := #[]) (mvT hZ (hw _ (List.mem_of_getElem? (i := 27) rfl)))) (mvT hZ (hw _ (List.mem_of_getElem? (i := 27) rfl))) (mvT hZ (hw _ (List.mem_of_getElem? (i := 26) rfl))) (by decide) (backOf (W := 0) (own_setw l Z a0 hw [] b36 jq sv a39 ln.toNatClampNeg jq.toNatClampNeg (fun _ => (.int (0 : Int32))) T39.heap n0 SZ39 hj.1 hj.2 fn39 fz39 fa39 ga39 na39) hZ (hw _ (List.mem_of_getElem? (i := 28) rfl)) (hw _ (List.mem_of_getElem? (i := 8) rfl)) (by decide) (by decide)) q42a q42c (g := (mkF m 87 #[.val (.int c0), .val (.int l0), .val (.int i0), .val (.int s0), .val (.int j0), .val (.int t0), .val (.int cp), .val (.int ln), .val (.int jq), .val (.int jq), .val (.int sv), .val (.int tv), .val (.ref b36), .val (.int (1 : Int32))] [(.int sv), (.int jq), (.ref b36)])) rfl (by rw [hml]; rfl) (Steps.refl _) (argsL := [(.int jq), (.int sv)]) (rest := []) (lenOf own_pd_1 rfl) rfl (by show 2 * 0 + _ ≤ _; exact Nat.le_of_eq rfl) (hb hby at_87) (fun _ _ => ⟨rfl, e41, (by decide : 2 + 0 ≤ _), (by decide : 10 + 0 ≤ _)⟩)
      dsimp only [Pt.U, Pt.locs, Pt.cells, Pt.slots] at X42 l42 y42 z42 st42 hQ42
      subst l42 y42 z42
      obtain ⟨rfl, N42q, K42, fa42⟩ := hQ42
      have N42 := Fr.app N41 N42q
      have f43 := f40.keep K42
      have f44 := fn39.keep K42 (ninS na39 nin0)
      have f45 := fz39.keep K42 (ninS na39 nin0)
      have SZ42 : n0 ≤ T42.heap.size := Nat.le_trans SZ39 K42.1
      refine own_by (fun t k => st42.trans k) ?_
      show own_Go p e below T42 (mkF m 90 #[.val (.int c0), .val (.int l0), .val (.int i0), .val (.int s0), .val (.int j0), .val (.int t0), .val (.int cp), .val (.int ln), .val (.int jq), .val (.int jq), .val (.int sv), .val (.int tv), .val (.ref b36), .val (.int (1 : Int32))] []) _
      refine own_s_iload X42.here hx (hb hby at_90) rfl ?_
      refine own_s_ifNo X42.here hx (hb hby at_92) (Jvm.Free.XT.i0_eq_f ((by decide))) ?_
      refine own_s_aload X42.here hx (hb hby at_95) rfl rfl ?_
      refine own_s_iload X42.here hx (hb hby at_97) rfl ?_
      obtain ⟨cq46, kq46, q46a, q46b, q46c⟩ := isOf hZ rfl f43
      obtain ⟨_, _, ⟨T46, L46, k46, n46⟩, -, X46, ⟨Lc46, hQ46, l46, y46, z46⟩, st46⟩ := X42.virtualBack hx (y := (⟨"com/example/tallymark/tallymark/SlotArray", "get", "(I)I"⟩ : MethodName)) (z := (⟨"com/example/tallymark/tallymark/SlotArray", "get", "(I)I"⟩ : MethodName)) hown (mvT hZ (hw _ (List.mem_of_getElem? (i := 19) rfl))) (mvT hZ (hw _ (List.mem_of_getElem? (i := 20) rfl))) (notFace_of_selects (args := #[]) (mvT hZ (hw _ (List.mem_of_getElem? (i := 22) rfl)))) (mvT hZ (hw _ (List.mem_of_getElem? (i := 22) rfl))) (mvT hZ (hw _ (List.mem_of_getElem? (i := 21) rfl))) (by decide) (backOf (W := 0) (own_getw l Z a0 hw [] b36 jq a39 ln.toNatClampNeg jq.toNatClampNeg (own_upd (fun _ => (.int (0 : Int32))) jq.toNatClampNeg (.int (sv + (1 : Int32)))) (sv + (1 : Int32)) T42.heap n0 SZ42 hj.1 hj.2 (own_upd_hit rfl) f44 f45 fa42) hZ (hw _ (List.mem_of_getElem? (i := 23) rfl)) (hw _ (List.mem_of_getElem? (i := 8) rfl)) (by decide) (by decide)) q46a q46c (g := (mkF m 99 #[.val (.int c0), .val (.int l0), .val (.int i0), .val (.int s0), .val (.int j0), .val (.int t0), .val (.int cp), .val (.int ln), .val (.int jq), .val (.int jq), .val (.int sv), .val (.int tv), .val (.ref b36), .val (.int (1 : Int32))] [(.int jq), (.ref b36)])) rfl (by rw [hml]; rfl) (Steps.refl _) (argsL := [(.int jq)]) (rest := []) (lenOf own_pd_3 rfl) rfl (by show 2 * 0 + _ ≤ _; exact Nat.le_of_eq rfl) (hb hby at_99) (fun _ _ => ⟨rfl, rfl, (by decide : 2 + 0 ≤ _), (by decide : 10 + 0 ≤ _)⟩)
      dsimp only [Pt.U, Pt.locs, Pt.cells, Pt.slots] at X46 l46 y46 z46 st46 hQ46
      subst l46 y46 z46
      obtain ⟨rfl, N46q, e46⟩ := hQ46
      have N46 := Fr.app N42 N46q
      refine own_by (fun t k => st46.trans k) ?_
      show own_Go p e below T46 (mkF m 102 #[.val (.int c0), .val (.int l0), .val (.int i0), .val (.int s0), .val (.int j0), .val (.int t0), .val (.int cp), .val (.int ln), .val (.int jq), .val (.int jq), .val (.int sv), .val (.int tv), .val (.ref b36), .val (.int (1 : Int32))] [(.int ((sv + (1 : Int32)) - (1 : Int32)))]) _
      refine own_s_iload X46.here hx (hb hby at_102) rfl ?_
      refine own_s_icmpNo X46.here hx (hb hby at_104) (Jvm.Free.XT.ii_ne_f ((own_as _))) ?_
      refine own_s_iconst X46.here hx (1 : Int32) (hb hby at_107) rfl ?_
      show own_Go p e below T46 (mkF m 108 #[.val (.int c0), .val (.int l0), .val (.int i0), .val (.int s0), .val (.int j0), .val (.int t0), .val (.int cp), .val (.int ln), .val (.int jq), .val (.int jq), .val (.int sv), .val (.int tv), .val (.ref b36), .val (.int (1 : Int32))] [(.int (1 : Int32))]) _
      refine own_s_goto X46.here hx 112 (hb hby at_108) (by decide) (by decide) ?_
      refine own_s_istore X46.here hx #[.val (.int c0), .val (.int l0), .val (.int i0), .val (.int s0), .val (.int j0), .val (.int t0), .val (.int cp), .val (.int ln), .val (.int jq), .val (.int jq), .val (.int sv), .val (.int tv), .val (.ref b36), .val (.int (1 : Int32))] (hb hby at_112) rfl ?_
      refine own_s_iload X46.here hx (hb hby at_114) rfl ?_
      refine own_s_ifNo X46.here hx (hb hby at_116) (Jvm.Free.XT.i0_eq_f ((by decide))) ?_
      refine own_s_aload X46.here hx (hb hby at_119) rfl rfl ?_
      refine own_s_iload X46.here hx (hb hby at_121) rfl ?_
      obtain ⟨cq47, kq47, q47a, q47b, q47c⟩ := isOf hZ e46 f43
      obtain ⟨_, _, ⟨T47, L47, k47, n47⟩, -, X47, ⟨Lc47, hQ47, l47, y47, z47⟩, st47⟩ := X46.virtualBack hx (y := (⟨"com/example/tallymark/tallymark/SlotArray", "get", "(I)I"⟩ : MethodName)) (z := (⟨"com/example/tallymark/tallymark/SlotArray", "get", "(I)I"⟩ : MethodName)) hown (mvT hZ (hw _ (List.mem_of_getElem? (i := 19) rfl))) (mvT hZ (hw _ (List.mem_of_getElem? (i := 20) rfl))) (notFace_of_selects (args := #[]) (mvT hZ (hw _ (List.mem_of_getElem? (i := 22) rfl)))) (mvT hZ (hw _ (List.mem_of_getElem? (i := 22) rfl))) (mvT hZ (hw _ (List.mem_of_getElem? (i := 21) rfl))) (by decide) (backOf (W := 0) (own_getw l Z a0 hw [] b36 jq a39 ln.toNatClampNeg jq.toNatClampNeg (own_upd (fun _ => (.int (0 : Int32))) jq.toNatClampNeg (.int (sv + (1 : Int32)))) (sv + (1 : Int32)) T42.heap n0 SZ42 hj.1 hj.2 (own_upd_hit rfl) f44 f45 fa42) hZ (hw _ (List.mem_of_getElem? (i := 23) rfl)) (hw _ (List.mem_of_getElem? (i := 8) rfl)) (by decide) (by decide)) q47a q47c (g := (mkF m 123 #[.val (.int c0), .val (.int l0), .val (.int i0), .val (.int s0), .val (.int j0), .val (.int t0), .val (.int cp), .val (.int ln), .val (.int jq), .val (.int jq), .val (.int sv), .val (.int tv), .val (.ref b36), .val (.int (1 : Int32))] [(.int jq), (.ref b36)])) rfl (by rw [hml]; rfl) (Steps.refl _) (argsL := [(.int jq)]) (rest := []) (lenOf own_pd_3 rfl) rfl (by show 2 * 0 + _ ≤ _; exact Nat.le_of_eq rfl) (hb hby at_123) (fun _ _ => ⟨rfl, e46, (by decide : 2 + 0 ≤ _), (by decide : 10 + 0 ≤ _)⟩)
      dsimp only [Pt.U, Pt.locs, Pt.cells, Pt.slots] at X47 l47 y47 z47 st47 hQ47
      subst l47 y47 z47
      obtain ⟨rfl, N47q, e47⟩ := hQ47
      have N47 := Fr.app N46 N47q
      refine own_by (fun t k => st47.trans k) ?_
      show own_Go p e below T47 (mkF m 126 #[.val (.int c0), .val (.int l0), .val (.int i0), .val (.int s0), .val (.int j0), .val (.int t0), .val (.int cp), .val (.int ln), .val (.int jq), .val (.int jq), .val (.int sv), .val (.int tv), .val (.ref b36), .val (.int (1 : Int32))] [(.int ((sv + (1 : Int32)) - (1 : Int32)))]) _
      refine own_s_iload X47.here hx (hb hby at_126) rfl ?_
      refine own_s_iload X47.here hx (hb hby at_128) rfl ?_
      refine own_s_icmpNo X47.here hx (hb hby at_130) (Jvm.Free.XT.ii_ne_f rfl) ?_
      refine own_s_iload X47.here hx (hb hby at_133) rfl ?_
      show own_Go p e below T47 (mkF m 135 #[.val (.int c0), .val (.int l0), .val (.int i0), .val (.int s0), .val (.int j0), .val (.int t0), .val (.int cp), .val (.int ln), .val (.int jq), .val (.int jq), .val (.int sv), .val (.int tv), .val (.ref b36), .val (.int (1 : Int32))] [(.int sv), (.int ((sv + (1 : Int32)) - (1 : Int32)))]) _
      refine own_s_goto X47.here hx 139 (hb hby at_135) (by decide) (by decide) ?_
      refine own_s_icmpNo X47.here hx (hb hby at_139) (Jvm.Free.XT.ii_ne_f ((own_as _))) ?_
      refine own_s_iconst X47.here hx (1 : Int32) (hb hby at_142) rfl ?_
      show own_Go p e below T47 (mkF m 143 #[.val (.int c0), .val (.int l0), .val (.int i0), .val (.int s0), .val (.int j0), .val (.int t0), .val (.int cp), .val (.int ln), .val (.int jq), .val (.int jq), .val (.int sv), .val (.int tv), .val (.ref b36), .val (.int (1 : Int32))] [(.int (1 : Int32))]) _
      refine own_s_goto X47.here hx 147 (hb hby at_143) (by decide) (by decide) ?_
      refine own_s_istore X47.here hx #[.val (.int c0), .val (.int l0), .val (.int i0), .val (.int s0), .val (.int j0), .val (.int t0), .val (.int cp), .val (.int ln), .val (.int jq), .val (.int jq), .val (.int sv), .val (.int tv), .val (.ref b36), .val (.int (1 : Int32))] (hb hby at_147) rfl ?_
      refine own_s_aload X47.here hx (hb hby at_149) rfl rfl ?_
      refine own_s_iload X47.here hx (hb hby at_151) rfl ?_
      refine own_s_iload X47.here hx (hb hby at_153) rfl ?_
      obtain ⟨cq48, kq48, q48a, q48b, q48c⟩ := isOf hZ e47 f43
      obtain ⟨_, _, ⟨T48, L48, k48, n48⟩, -, X48, ⟨Lc48, hQ48, l48, y48, z48⟩, st48⟩ := X47.virtualBack hx (y := (⟨"com/example/tallymark/tallymark/SlotArray", "set", "(II)V"⟩ : MethodName)) (z := (⟨"com/example/tallymark/tallymark/SlotArray", "set", "(II)V"⟩ : MethodName)) hown (mvT hZ (hw _ (List.mem_of_getElem? (i := 24) rfl))) (mvT hZ (hw _ (List.mem_of_getElem? (i := 25) rfl))) (notFace_of_selects (args := #[]) (mvT hZ (hw _ (List.mem_of_getElem? (i := 27) rfl)))) (mvT hZ (hw _ (List.mem_of_getElem? (i := 27) rfl))) (mvT hZ (hw _ (List.mem_of_getElem? (i := 26) rfl))) (by decide) (backOf (W := 0) (own_setw l Z a0 hw [] b36 jq tv a39 ln.toNatClampNeg jq.toNatClampNeg (own_upd (fun _ => (.int (0 : Int32))) jq.toNatClampNeg (.int (sv + (1 : Int32)))) T42.heap n0 SZ42 hj.1 hj.2 f44 f45 fa42 ga39 na39) hZ (hw _ (List.mem_of_getElem? (i := 28) rfl)) (hw _ (List.mem_of_getElem? (i := 8) rfl)) (by decide) (by decide)) q48a q48c (g := (mkF m 155 #[.val (.int c0), .val (.int l0), .val (.int i0), .val (.int s0), .val (.int j0), .val (.int t0), .val (.int cp), .val (.int ln), .val (.int jq), .val (.int jq), .val (.int sv), .val (.int tv), .val (.ref b36), .val (.int (1 : Int32))] [(.int tv), (.int jq), (.ref b36)])) rfl (by rw [hml]; rfl) (Steps.refl _) (argsL := [(.int jq), (.int tv)]) (rest := []) (lenOf own_pd_1 rfl) rfl (by show 2 * 0 + _ ≤ _; exact Nat.le_of_eq rfl) (hb hby at_155) (fun _ _ => ⟨rfl, e47, (by decide : 2 + 0 ≤ _), (by decide : 10 + 0 ≤ _)⟩)
      dsimp only [Pt.U, Pt.locs, Pt.cells, Pt.slots] at X48 l48 y48 z48 st48 hQ48
      subst l48 y48 z48
      obtain ⟨rfl, N48q, K48, fa48⟩ := hQ48
      have N48 := Fr.app N47 N48q
      have f49 := f43.keep K48
      have f50 := f44.keep K48 (ninS na39 nin0)
      have f51 := f45.keep K48 (ninS na39 nin0)
      have SZ48 : n0 ≤ T48.heap.size := Nat.le_trans SZ42 K48.1
      refine own_by (fun t k => st48.trans k) ?_
      show own_Go p e below T48 (mkF m 158 #[.val (.int c0), .val (.int l0), .val (.int i0), .val (.int s0), .val (.int j0), .val (.int t0), .val (.int cp), .val (.int ln), .val (.int jq), .val (.int jq), .val (.int sv), .val (.int tv), .val (.ref b36), .val (.int (1 : Int32))] []) _
      refine own_s_iload X48.here hx (hb hby at_158) rfl ?_
      refine own_s_ifNo X48.here hx (hb hby at_160) (Jvm.Free.XT.i0_eq_f ((by decide))) ?_
      refine own_s_aload X48.here hx (hb hby at_163) rfl rfl ?_
      refine own_s_iload X48.here hx (hb hby at_165) rfl ?_
      obtain ⟨cq52, kq52, q52a, q52b, q52c⟩ := isOf hZ rfl f49
      obtain ⟨_, _, ⟨T52, L52, k52, n52⟩, -, X52, ⟨Lc52, hQ52, l52, y52, z52⟩, st52⟩ := X48.virtualBack hx (y := (⟨"com/example/tallymark/tallymark/SlotArray", "get", "(I)I"⟩ : MethodName)) (z := (⟨"com/example/tallymark/tallymark/SlotArray", "get", "(I)I"⟩ : MethodName)) hown (mvT hZ (hw _ (List.mem_of_getElem? (i := 19) rfl))) (mvT hZ (hw _ (List.mem_of_getElem? (i := 20) rfl))) (notFace_of_selects (args := #[]) (mvT hZ (hw _ (List.mem_of_getElem? (i := 22) rfl)))) (mvT hZ (hw _ (List.mem_of_getElem? (i := 22) rfl))) (mvT hZ (hw _ (List.mem_of_getElem? (i := 21) rfl))) (by decide) (backOf (W := 0) (own_getw l Z a0 hw [] b36 jq a39 ln.toNatClampNeg jq.toNatClampNeg (own_upd (own_upd (fun _ => (.int (0 : Int32))) jq.toNatClampNeg (.int (sv + (1 : Int32)))) jq.toNatClampNeg (.int (tv + (1 : Int32)))) (tv + (1 : Int32)) T48.heap n0 SZ48 hj.1 hj.2 (own_upd_hit rfl) f50 f51 fa48) hZ (hw _ (List.mem_of_getElem? (i := 23) rfl)) (hw _ (List.mem_of_getElem? (i := 8) rfl)) (by decide) (by decide)) q52a q52c (g := (mkF m 167 #[.val (.int c0), .val (.int l0), .val (.int i0), .val (.int s0), .val (.int j0), .val (.int t0), .val (.int cp), .val (.int ln), .val (.int jq), .val (.int jq), .val (.int sv), .val (.int tv), .val (.ref b36), .val (.int (1 : Int32))] [(.int jq), (.ref b36)])) rfl (by rw [hml]; rfl) (Steps.refl _) (argsL := [(.int jq)]) (rest := []) (lenOf own_pd_3 rfl) rfl (by show 2 * 0 + _ ≤ _; exact Nat.le_of_eq rfl) (hb hby at_167) (fun _ _ => ⟨rfl, rfl, (by decide : 2 + 0 ≤ _), (by decide : 10 + 0 ≤ _)⟩)
      dsimp only [Pt.U, Pt.locs, Pt.cells, Pt.slots] at X52 l52 y52 z52 st52 hQ52
      subst l52 y52 z52
      obtain ⟨rfl, N52q, e52⟩ := hQ52
      have N52 := Fr.app N48 N52q
      refine own_by (fun t k => st52.trans k) ?_
      show own_Go p e below T52 (mkF m 170 #[.val (.int c0), .val (.int l0), .val (.int i0), .val (.int s0), .val (.int j0), .val (.int t0), .val (.int cp), .val (.int ln), .val (.int jq), .val (.int jq), .val (.int sv), .val (.int tv), .val (.ref b36), .val (.int (1 : Int32))] [(.int ((tv + (1 : Int32)) - (1 : Int32)))]) _
      refine own_s_iload X52.here hx (hb hby at_170) rfl ?_
      refine own_s_iload X52.here hx (hb hby at_172) rfl ?_
      refine own_s_icmpNo X52.here hx (hb hby at_174) (Jvm.Free.XT.ii_ne_f rfl) ?_
      refine own_s_iload X52.here hx (hb hby at_177) rfl ?_
      show own_Go p e below T52 (mkF m 179 #[.val (.int c0), .val (.int l0), .val (.int i0), .val (.int s0), .val (.int j0), .val (.int t0), .val (.int cp), .val (.int ln), .val (.int jq), .val (.int jq), .val (.int sv), .val (.int tv), .val (.ref b36), .val (.int (1 : Int32))] [(.int tv), (.int ((tv + (1 : Int32)) - (1 : Int32)))]) _
      refine own_s_goto X52.here hx 184 (hb hby at_179) (by decide) (by decide) ?_
      refine own_s_icmpNo X52.here hx (hb hby at_184) (Jvm.Free.XT.ii_ne_f ((own_as _))) ?_
      refine own_s_iconst X52.here hx (1 : Int32) (hb hby at_187) rfl ?_
      show own_Go p e below T52 (mkF m 188 #[.val (.int c0), .val (.int l0), .val (.int i0), .val (.int s0), .val (.int j0), .val (.int t0), .val (.int cp), .val (.int ln), .val (.int jq), .val (.int jq), .val (.int sv), .val (.int tv), .val (.ref b36), .val (.int (1 : Int32))] [(.int (1 : Int32))]) _
      refine own_s_goto X52.here hx 192 (hb hby at_188) (by decide) (by decide) ?_
      refine own_s_istore X52.here hx #[.val (.int c0), .val (.int l0), .val (.int i0), .val (.int s0), .val (.int j0), .val (.int t0), .val (.int cp), .val (.int ln), .val (.int jq), .val (.int jq), .val (.int sv), .val (.int tv), .val (.ref b36), .val (.int (1 : Int32))] (hb hby at_192) rfl ?_
      refine own_s_iload X52.here hx (hb hby at_194) rfl ?_
      refine own_s_ifNo X52.here hx (hb hby at_196) (Jvm.Free.XT.i0_eq_f ((by decide))) ?_
      refine own_s_aload X52.here hx (hb hby at_199) rfl rfl ?_
      refine own_s_iload X52.here hx (hb hby at_201) rfl ?_
      obtain ⟨cq53, kq53, q53a, q53b, q53c⟩ := isOf hZ e52 f49
      obtain ⟨_, _, ⟨T53, L53, k53, n53⟩, -, X53, ⟨Lc53, hQ53, l53, y53, z53⟩, st53⟩ := X52.virtualBack hx (y := (⟨"com/example/tallymark/tallymark/SlotArray", "get", "(I)I"⟩ : MethodName)) (z := (⟨"com/example/tallymark/tallymark/SlotArray", "get", "(I)I"⟩ : MethodName)) hown (mvT hZ (hw _ (List.mem_of_getElem? (i := 19) rfl))) (mvT hZ (hw _ (List.mem_of_getElem? (i := 20) rfl))) (notFace_of_selects (args := #[]) (mvT hZ (hw _ (List.mem_of_getElem? (i := 22) rfl)))) (mvT hZ (hw _ (List.mem_of_getElem? (i := 22) rfl))) (mvT hZ (hw _ (List.mem_of_getElem? (i := 21) rfl))) (by decide) (backOf (W := 0) (own_getw l Z a0 hw [] b36 jq a39 ln.toNatClampNeg jq.toNatClampNeg (own_upd (own_upd (fun _ => (.int (0 : Int32))) jq.toNatClampNeg (.int (sv + (1 : Int32)))) jq.toNatClampNeg (.int (tv + (1 : Int32)))) (tv + (1 : Int32)) T48.heap n0 SZ48 hj.1 hj.2 (own_upd_hit rfl) f50 f51 fa48) hZ (hw _ (List.mem_of_getElem? (i := 23) rfl)) (hw _ (List.mem_of_getElem? (i := 8) rfl)) (by decide) (by decide)) q53a q53c (g := (mkF m 203 #[.val (.int c0), .val (.int l0), .val (.int i0), .val (.int s0), .val (.int j0), .val (.int t0), .val (.int cp), .val (.int ln), .val (.int jq), .val (.int jq), .val (.int sv), .val (.int tv), .val (.ref b36), .val (.int (1 : Int32))] [(.int jq), (.ref b36)])) rfl (by rw [hml]; rfl) (Steps.refl _) (argsL := [(.int jq)]) (rest := []) (lenOf own_pd_3 rfl) rfl (by show 2 * 0 + _ ≤ _; exact Nat.le_of_eq rfl) (hb hby at_203) (fun _ _ => ⟨rfl, e52, (by decide : 2 + 0 ≤ _), (by decide : 10 + 0 ≤ _)⟩)
      dsimp only [Pt.U, Pt.locs, Pt.cells, Pt.slots] at X53 l53 y53 z53 st53 hQ53
      subst l53 y53 z53
      obtain ⟨rfl, N53q, e53⟩ := hQ53
      have N53 := Fr.app N52 N53q
      refine own_by (fun t k => st53.trans k) ?_
      show own_Go p e below T53 (mkF m 206 #[.val (.int c0), .val (.int l0), .val (.int i0), .val (.int s0), .val (.int j0), .val (.int t0), .val (.int cp), .val (.int ln), .val (.int jq), .val (.int jq), .val (.int sv), .val (.int tv), .val (.ref b36), .val (.int (1 : Int32))] [(.int ((tv + (1 : Int32)) - (1 : Int32)))]) _
      refine own_s_iload X53.here hx (hb hby at_206) rfl ?_
      refine own_s_icmpNo X53.here hx (hb hby at_208) (Jvm.Free.XT.ii_ne_f ((own_as _))) ?_
      refine own_s_iconst X53.here hx (1 : Int32) (hb hby at_211) rfl ?_
      show own_Go p e below T53 (mkF m 212 #[.val (.int c0), .val (.int l0), .val (.int i0), .val (.int s0), .val (.int j0), .val (.int t0), .val (.int cp), .val (.int ln), .val (.int jq), .val (.int jq), .val (.int sv), .val (.int tv), .val (.ref b36), .val (.int (1 : Int32))] [(.int (1 : Int32))]) _
      refine own_s_goto X53.here hx 216 (hb hby at_212) (by decide) (by decide) ?_
      refine own_s_istore X53.here hx #[.val (.int c0), .val (.int l0), .val (.int i0), .val (.int s0), .val (.int j0), .val (.int t0), .val (.int cp), .val (.int ln), .val (.int jq), .val (.int jq), .val (.int sv), .val (.int tv), .val (.ref b36), .val (.int (1 : Int32))] (hb hby at_216) rfl ?_
      refine own_s_iload X53.here hx (hb hby at_218) rfl ?_
      refine own_retZ X53 hx hret hlk (hb hby at_220) rfl (by decide) (by decide) ?_
      exact ⟨rfl, N53⟩
    ·
      have hns : nar .char ((sv + (1 : Int32)).toUInt32.toUInt16.toUInt32.toInt32) = (sv + (1 : Int32)) := by rw [← hsv]; exact own_pick_n cp s0 hcb hm
      have hnt : nar .char ((tv + (1 : Int32)).toUInt32.toUInt16.toUInt32.toInt32) = (tv + (1 : Int32)) := by rw [← htv]; exact own_pick_n cp t0 hcb hm
      obtain ⟨T54, h54, X54, e54, E54, A54, D54, -, st54⟩ := newO X35 hx hZ hown (hw _ (List.mem_of_getElem? (i := 6) rfl)) (hw _ (List.mem_of_getElem? (i := 7) rfl)) (hw _ (List.mem_of_getElem? (i := 8) rfl)) e35 (g := (mkF m 50 #[.val (.int c0), .val (.int l0), .val (.int i0), .val (.int s0), .val (.int j0), .val (.int t0), .val (.int cp), .val (.int ln), .val (.int jq), .val (.int jq), .val (.int sv), .val (.int tv), .unset, .unset] [])) rfl (hb hby at_50) (by decide) (by decide)
      obtain ⟨b54, g54⟩ : ∃ z, z = h0.size := ⟨_, rfl⟩
      rw [← g54] at A54 D54 st54
      have ge_b54 : n0 ≤ b54 := Nat.le_trans Z0 (Nat.le_of_eq g54.symm)
      have SZ54 : n0 ≤ h54.size := Nat.le_trans Z0 E54.1
      have f55 : Fld Z h54 b54 "com/example/tallymark/tallymark/SlotArray" "narrow" "[C" .null := D54 (Or.inl (hw _ (List.mem_of_getElem? (i := 18) rfl))) (ty := (.array .char)) (by decide)
      have f56 : Fld Z h54 b54 "com/example/tallymark/tallymark/SlotArray" "wide" "[I" .null := D54 (Or.inl (hw _ (List.mem_of_getElem? (i := 31) rfl))) (ty := (.array .int)) (by decide)
      refine own_by st54 ?_
      show own_Go p e below T54 (mkF m 53 #[.val (.int c0), .val (.int l0), .val (.int i0), .val (.int s0), .val (.int j0), .val (.int t0), .val (.int cp), .val (.int ln), .val (.int jq), .val (.int jq), .val (.int sv), .val (.int tv), .unset, .unset] [(.ref b54)]) _
      refine own_s_dup X54.here hx (hb hby at_53) rfl ?_
      refine own_s_iload X54.here hx (hb hby at_54) rfl ?_
      refine own_s_iload X54.here hx (hb hby at_56) rfl ?_
      obtain ⟨_, _, ⟨T57, L57, k57, n57⟩, -, X57, ⟨Lc57, hQ57, l57, y57, z57⟩, st57⟩ := X54.specialBack hx (y := (⟨"com/example/tallymark/tallymark/SlotArray", "<init>", "(II)V"⟩ : MethodName)) rfl hown (mvT hZ (hw _ (List.mem_of_getElem? (i := 9) rfl))) (mvT hZ (hw _ (List.mem_of_getElem? (i := 10) rfl))) (mvT hZ (hw _ (List.mem_of_getElem? (i := 11) rfl))) (by decide) (backOf (W := 1) (own_inin l Z a0 hw [] b54 cp ln ln.toNatClampNeg h54 n0 SZ54 hm rfl hln8.1 hln8.2 A54 f55 f56 ge_b54) hZ (hw _ (List.mem_of_getElem? (i := 11) rfl)) (hw _ (List.mem_of_getElem? (i := 8) rfl)) (by decide) (by decide)) (g := (mkF m 58 #[.val (.int c0), .val (.int l0), .val (.int i0), .val (.int s0), .val (.int j0), .val (.int t0), .val (.int cp), .val (.int ln), .val (.int jq), .val (.int jq), .val (.int sv), .val (.int tv), .unset, .unset] [(.int ln), (.int cp), (.ref b54), (.ref b54)])) rfl (by rw [hml]; rfl) (Steps.refl _) (a := b54) (argsL := [(.int cp), (.int ln)]) (rest := [(.ref b54)]) (lenOf own_pd_1 rfl) rfl (by show 2 * 0 + _ ≤ _; exact Nat.le_of_eq rfl) (hb hby at_58) (fun _ _ => ⟨rfl, e54, (by decide : 1 + 1 ≤ _), (by decide : 2 + 8 ≤ _)⟩)
      dsimp only [Pt.U, Pt.locs, Pt.cells, Pt.slots] at X57 l57 y57 z57 st57 hQ57
      subst l57 y57 z57
      obtain ⟨rfl, N57q, K57, a57, ga57, na57, fn57, fa57⟩ := hQ57
      have N57 := Fr.app N35 N57q
      have f58 := A54.keep K57
      have SZ57 : n0 ≤ T57.heap.size := Nat.le_trans SZ54 K57.1
      refine own_by (fun t k => st57.trans k) ?_
      show own_Go p e below T57 (mkF m 61 #[.val (.int c0), .val (.int l0), .val (.int i0), .val (.int s0), .val (.int j0), .val (.int t0), .val (.int cp), .val (.int ln), .val (.int jq), .val (.int jq), .val (.int sv), .val (.int tv), .unset, .unset] [(.ref b54)]) _
      refine own_s_astore X57.here hx #[.val (.int c0), .val (.int l0), .val (.int i0), .val (.int s0), .val (.int j0), .val (.int t0), .val (.int cp), .val (.int ln), .val (.int jq), .val (.int jq), .val (.int sv), .val (.int tv), .val (.ref b54), .unset] (hb hby at_61) rfl rfl ?_
      refine own_s_aload X57.here hx (hb hby at_63) rfl rfl ?_
      refine own_s_iload X57.here hx (hb hby at_65) rfl ?_
      obtain ⟨cq59, kq59, q59a, q59b, q59c⟩ := isOf hZ rfl f58
      obtain ⟨_, _, ⟨T59, L59, k59, n59⟩, -, X59, ⟨Lc59, hQ59, l59, y59, z59⟩, st59⟩ := X57.virtualBack hx (y := (⟨"com/example/tallymark/tallymark/SlotArray", "get", "(I)I"⟩ : MethodName)) (z := (⟨"com/example/tallymark/tallymark/SlotArray", "get", "(I)I"⟩ : MethodName)) hown (mvT hZ (hw _ (List.mem_of_getElem? (i := 19) rfl))) (mvT hZ (hw _ (List.mem_of_getElem? (i := 20) rfl))) (notFace_of_selects (args := #[]) (mvT hZ (hw _ (List.mem_of_getElem? (i := 22) rfl)))) (mvT hZ (hw _ (List.mem_of_getElem? (i := 22) rfl))) (mvT hZ (hw _ (List.mem_of_getElem? (i := 21) rfl))) (by decide) (backOf (W := 0) (own_getn l Z a0 hw [] b54 jq a57 ln.toNatClampNeg jq.toNatClampNeg (fun _ => (.int (0 : Int32))) (0 : Int32) T57.heap n0 SZ57 hj.1 hj.2 rfl fn57 fa57) hZ (hw _ (List.mem_of_getElem? (i := 23) rfl)) (hw _ (List.mem_of_getElem? (i := 8) rfl)) (by decide) (by decide)) q59a q59c (g := (mkF m 67 #[.val (.int c0), .val (.int l0), .val (.int i0), .val (.int s0), .val (.int j0), .val (.int t0), .val (.int cp), .val (.int ln), .val (.int jq), .val (.int jq), .val (.int sv), .val (.int tv), .val (.ref b54), .unset] [(.int jq), (.ref b54)])) rfl (by rw [hml]; rfl) (Steps.refl _) (argsL := [(.int jq)]) (rest := []) (lenOf own_pd_3 rfl) rfl (by show 2 * 0 + _ ≤ _; exact Nat.le_of_eq rfl) (hb hby at_67) (fun _ _ => ⟨rfl, rfl, (by decide : 2 + 0 ≤ _), (by decide : 10 + 0 ≤ _)⟩)
      dsimp only [Pt.U, Pt.locs, Pt.cells, Pt.slots] at X59 l59 y59 z59 st59 hQ59
      subst l59 y59 z59
      obtain ⟨rfl, N59q, e59⟩ := hQ59
      have N59 := Fr.app N57 N59q
      refine own_by (fun t k => st59.trans k) ?_
      show own_Go p e below T59 (mkF m 70 #[.val (.int c0), .val (.int l0), .val (.int i0), .val (.int s0), .val (.int j0), .val (.int t0), .val (.int cp), .val (.int ln), .val (.int jq), .val (.int jq), .val (.int sv), .val (.int tv), .val (.ref b54), .unset] [(.int ((0 : Int32) - (1 : Int32)))]) _
      refine own_s_iconst X59.here hx (-1 : Int32) (hb hby at_70) rfl ?_
      refine own_s_icmpNo X59.here hx (hb hby at_71) (Jvm.Free.XT.ii_ne_f ((by decide))) ?_
      refine own_s_iconst X59.here hx (1 : Int32) (hb hby at_74) rfl ?_
      show own_Go p e below T59 (mkF m 75 #[.val (.int c0), .val (.int l0), .val (.int i0), .val (.int s0), .val (.int j0), .val (.int t0), .val (.int cp), .val (.int ln), .val (.int jq), .val (.int jq), .val (.int sv), .val (.int tv), .val (.ref b54), .unset] [(.int (1 : Int32))]) _
      refine own_s_goto X59.here hx 79 (hb hby at_75) (by decide) (by decide) ?_
      refine own_s_istore X59.here hx #[.val (.int c0), .val (.int l0), .val (.int i0), .val (.int s0), .val (.int j0), .val (.int t0), .val (.int cp), .val (.int ln), .val (.int jq), .val (.int jq), .val (.int sv), .val (.int tv), .val (.ref b54), .val (.int (1 : Int32))] (hb hby at_79) rfl ?_
      refine own_s_aload X59.here hx (hb hby at_81) rfl rfl ?_
      refine own_s_iload X59.here hx (hb hby at_83) rfl ?_
      refine own_s_iload X59.here hx (hb hby at_85) rfl ?_
      obtain ⟨cq60, kq60, q60a, q60b, q60c⟩ := isOf hZ e59 f58
      obtain ⟨_, _, ⟨T60, L60, k60, n60⟩, -, X60, ⟨Lc60, hQ60, l60, y60, z60⟩, st60⟩ := X59.virtualBack hx (y := (⟨"com/example/tallymark/tallymark/SlotArray", "set", "(II)V"⟩ : MethodName)) (z := (⟨"com/example/tallymark/tallymark/SlotArray", "set", "(II)V"⟩ : MethodName)) hown (mvT hZ (hw _ (List.mem_of_getElem? (i := 24) rfl))) (mvT hZ (hw _ (List.mem_of_getElem? (i := 25) rfl))) (notFace_of_selects (args := #[]) (mvT hZ (hw _ (List.mem_of_getElem? (i := 27) rfl)))) (mvT hZ (hw _ (List.mem_of_getElem? (i := 27) rfl))) (mvT hZ (hw _ (List.mem_of_getElem? (i := 26) rfl))) (by decide) (backOf (W := 0) (own_setn l Z a0 hw [] b54 jq sv a57 ln.toNatClampNeg jq.toNatClampNeg (fun _ => (.int (0 : Int32))) T57.heap n0 SZ57 hj.1 hj.2 hns fn57 fa57 ga57 na57) hZ (hw _ (List.mem_of_getElem? (i := 28) rfl)) (hw _ (List.mem_of_getElem? (i := 8) rfl)) (by decide) (by decide)) q60a q60c (g := (mkF m 87 #[.val (.int c0), .val (.int l0), .val (.int i0), .val (.int s0), .val (.int j0), .val (.int t0), .val (.int cp), .val (.int ln), .val (.int jq), .val (.int jq), .val (.int sv), .val (.int tv), .val (.ref b54), .val (.int (1 : Int32))] [(.int sv), (.int jq), (.ref b54)])) rfl (by rw [hml]; rfl) (Steps.refl _) (argsL := [(.int jq), (.int sv)]) (rest := []) (lenOf own_pd_1 rfl) rfl (by show 2 * 0 + _ ≤ _; exact Nat.le_of_eq rfl) (hb hby at_87) (fun _ _ => ⟨rfl, e59, (by decide : 2 + 0 ≤ _), (by decide : 10 + 0 ≤ _)⟩)
      dsimp only [Pt.U, Pt.locs, Pt.cells, Pt.slots] at X60 l60 y60 z60 st60 hQ60
      subst l60 y60 z60
      obtain ⟨rfl, N60q, K60, fa60⟩ := hQ60
      have N60 := Fr.app N59 N60q
      have f61 := f58.keep K60
      have f62 := fn57.keep K60 (ninS na57 nin0)
      have SZ60 : n0 ≤ T60.heap.size := Nat.le_trans SZ57 K60.1
      refine own_by (fun t k => st60.trans k) ?_
      show own_Go p e below T60 (mkF m 90 #[.val (.int c0), .val (.int l0), .val (.int i0), .val (.int s0), .val (.int j0), .val (.int t0), .val (.int cp), .val (.int ln), .val (.int jq), .val (.int jq), .val (.int sv), .val (.int tv), .val (.ref b54), .val (.int (1 : Int32))] []) _
      refine own_s_iload X60.here hx (hb hby at_90) rfl ?_
      refine own_s_ifNo X60.here hx (hb hby at_92) (Jvm.Free.XT.i0_eq_f ((by decide))) ?_
      refine own_s_aload X60.here hx (hb hby at_95) rfl rfl ?_
      refine own_s_iload X60.here hx (hb hby at_97) rfl ?_
      obtain ⟨cq63, kq63, q63a, q63b, q63c⟩ := isOf hZ rfl f61
      obtain ⟨_, _, ⟨T63, L63, k63, n63⟩, -, X63, ⟨Lc63, hQ63, l63, y63, z63⟩, st63⟩ := X60.virtualBack hx (y := (⟨"com/example/tallymark/tallymark/SlotArray", "get", "(I)I"⟩ : MethodName)) (z := (⟨"com/example/tallymark/tallymark/SlotArray", "get", "(I)I"⟩ : MethodName)) hown (mvT hZ (hw _ (List.mem_of_getElem? (i := 19) rfl))) (mvT hZ (hw _ (List.mem_of_getElem? (i := 20) rfl))) (notFace_of_selects (args := #[]) (mvT hZ (hw _ (List.mem_of_getElem? (i := 22) rfl)))) (mvT hZ (hw _ (List.mem_of_getElem? (i := 22) rfl))) (mvT hZ (hw _ (List.mem_of_getElem? (i := 21) rfl))) (by decide) (backOf (W := 0) (own_getn l Z a0 hw [] b54 jq a57 ln.toNatClampNeg jq.toNatClampNeg (own_upd (fun _ => (.int (0 : Int32))) jq.toNatClampNeg (.int (sv + (1 : Int32)))) (sv + (1 : Int32)) T60.heap n0 SZ60 hj.1 hj.2 (own_upd_hit rfl) f62 fa60) hZ (hw _ (List.mem_of_getElem? (i := 23) rfl)) (hw _ (List.mem_of_getElem? (i := 8) rfl)) (by decide) (by decide)) q63a q63c (g := (mkF m 99 #[.val (.int c0), .val (.int l0), .val (.int i0), .val (.int s0), .val (.int j0), .val (.int t0), .val (.int cp), .val (.int ln), .val (.int jq), .val (.int jq), .val (.int sv), .val (.int tv), .val (.ref b54), .val (.int (1 : Int32))] [(.int jq), (.ref b54)])) rfl (by rw [hml]; rfl) (Steps.refl _) (argsL := [(.int jq)]) (rest := []) (lenOf own_pd_3 rfl) rfl (by show 2 * 0 + _ ≤ _; exact Nat.le_of_eq rfl) (hb hby at_99) (fun _ _ => ⟨rfl, rfl, (by decide : 2 + 0 ≤ _), (by decide : 10 + 0 ≤ _)⟩)
      dsimp only [Pt.U, Pt.locs, Pt.cells, Pt.slots] at X63 l63 y63 z63 st63 hQ63
      subst l63 y63 z63
      obtain ⟨rfl, N63q, e63⟩ := hQ63
      have N63 := Fr.app N60 N63q
      refine own_by (fun t k => st63.trans k) ?_
      show own_Go p e below T63 (mkF m 102 #[.val (.int c0), .val (.int l0), .val (.int i0), .val (.int s0), .val (.int j0), .val (.int t0), .val (.int cp), .val (.int ln), .val (.int jq), .val (.int jq), .val (.int sv), .val (.int tv), .val (.ref b54), .val (.int (1 : Int32))] [(.int ((sv + (1 : Int32)) - (1 : Int32)))]) _
      refine own_s_iload X63.here hx (hb hby at_102) rfl ?_
      refine own_s_icmpNo X63.here hx (hb hby at_104) (Jvm.Free.XT.ii_ne_f ((own_as _))) ?_
      refine own_s_iconst X63.here hx (1 : Int32) (hb hby at_107) rfl ?_
      show own_Go p e below T63 (mkF m 108 #[.val (.int c0), .val (.int l0), .val (.int i0), .val (.int s0), .val (.int j0), .val (.int t0), .val (.int cp), .val (.int ln), .val (.int jq), .val (.int jq), .val (.int sv), .val (.int tv), .val (.ref b54), .val (.int (1 : Int32))] [(.int (1 : Int32))]) _
      refine own_s_goto X63.here hx 112 (hb hby at_108) (by decide) (by decide) ?_
      refine own_s_istore X63.here hx #[.val (.int c0), .val (.int l0), .val (.int i0), .val (.int s0), .val (.int j0), .val (.int t0), .val (.int cp), .val (.int ln), .val (.int jq), .val (.int jq), .val (.int sv), .val (.int tv), .val (.ref b54), .val (.int (1 : Int32))] (hb hby at_112) rfl ?_
      refine own_s_iload X63.here hx (hb hby at_114) rfl ?_
      refine own_s_ifNo X63.here hx (hb hby at_116) (Jvm.Free.XT.i0_eq_f ((by decide))) ?_
      refine own_s_aload X63.here hx (hb hby at_119) rfl rfl ?_
      refine own_s_iload X63.here hx (hb hby at_121) rfl ?_
      obtain ⟨cq64, kq64, q64a, q64b, q64c⟩ := isOf hZ e63 f61
      obtain ⟨_, _, ⟨T64, L64, k64, n64⟩, -, X64, ⟨Lc64, hQ64, l64, y64, z64⟩, st64⟩ := X63.virtualBack hx (y := (⟨"com/example/tallymark/tallymark/SlotArray", "get", "(I)I"⟩ : MethodName)) (z := (⟨"com/example/tallymark/tallymark/SlotArray", "get", "(I)I"⟩ : MethodName)) hown (mvT hZ (hw _ (List.mem_of_getElem? (i := 19) rfl))) (mvT hZ (hw _ (List.mem_of_getElem? (i := 20) rfl))) (notFace_of_selects (args := #[]) (mvT hZ (hw _ (List.mem_of_getElem? (i := 22) rfl)))) (mvT hZ (hw _ (List.mem_of_getElem? (i := 22) rfl))) (mvT hZ (hw _ (List.mem_of_getElem? (i := 21) rfl))) (by decide) (backOf (W := 0) (own_getn l Z a0 hw [] b54 jq a57 ln.toNatClampNeg jq.toNatClampNeg (own_upd (fun _ => (.int (0 : Int32))) jq.toNatClampNeg (.int (sv + (1 : Int32)))) (sv + (1 : Int32)) T60.heap n0 SZ60 hj.1 hj.2 (own_upd_hit rfl) f62 fa60) hZ (hw _ (List.mem_of_getElem? (i := 23) rfl)) (hw _ (List.mem_of_getElem? (i := 8) rfl)) (by decide) (by decide)) q64a q64c (g := (mkF m 123 #[.val (.int c0), .val (.int l0), .val (.int i0), .val (.int s0), .val (.int j0), .val (.int t0), .val (.int cp), .val (.int ln), .val (.int jq), .val (.int jq), .val (.int sv), .val (.int tv), .val (.ref b54), .val (.int (1 : Int32))] [(.int jq), (.ref b54)])) rfl (by rw [hml]; rfl) (Steps.refl _) (argsL := [(.int jq)]) (rest := []) (lenOf own_pd_3 rfl) rfl (by show 2 * 0 + _ ≤ _; exact Nat.le_of_eq rfl) (hb hby at_123) (fun _ _ => ⟨rfl, e63, (by decide : 2 + 0 ≤ _), (by decide : 10 + 0 ≤ _)⟩)
      dsimp only [Pt.U, Pt.locs, Pt.cells, Pt.slots] at X64 l64 y64 z64 st64 hQ64
      subst l64 y64 z64
      obtain ⟨rfl, N64q, e64⟩ := hQ64
      have N64 := Fr.app N63 N64q
      refine own_by (fun t k => st64.trans k) ?_
      show own_Go p e below T64 (mkF m 126 #[.val (.int c0), .val (.int l0), .val (.int i0), .val (.int s0), .val (.int j0), .val (.int t0), .val (.int cp), .val (.int ln), .val (.int jq), .val (.int jq), .val (.int sv), .val (.int tv), .val (.ref b54), .val (.int (1 : Int32))] [(.int ((sv + (1 : Int32)) - (1 : Int32)))]) _
      refine own_s_iload X64.here hx (hb hby at_126) rfl ?_
      refine own_s_iload X64.here hx (hb hby at_128) rfl ?_
      refine own_s_icmpNo X64.here hx (hb hby at_130) (Jvm.Free.XT.ii_ne_f rfl) ?_
      refine own_s_iload X64.here hx (hb hby at_133) rfl ?_
      show own_Go p e below T64 (mkF m 135 #[.val (.int c0), .val (.int l0), .val (.int i0), .val (.int s0), .val (.int j0), .val (.int t0), .val (.int cp), .val (.int ln), .val (.int jq), .val (.int jq), .val (.int sv), .val (.int tv), .val (.ref b54), .val (.int (1 : Int32))] [(.int sv), (.int ((sv + (1 : Int32)) - (1 : Int32)))]) _
      refine own_s_goto X64.here hx 139 (hb hby at_135) (by decide) (by decide) ?_
      refine own_s_icmpNo X64.here hx (hb hby at_139) (Jvm.Free.XT.ii_ne_f ((own_as _))) ?_
      refine own_s_iconst X64.here hx (1 : Int32) (hb hby at_142) rfl ?_
      show own_Go p e below T64 (mkF m 143 #[.val (.int c0), .val (.int l0), .val (.int i0), .val (.int s0), .val (.int j0), .val (.int t0), .val (.int cp), .val (.int ln), .val (.int jq), .val (.int jq), .val (.int sv), .val (.int tv), .val (.ref b54), .val (.int (1 : Int32))] [(.int (1 : Int32))]) _
      refine own_s_goto X64.here hx 147 (hb hby at_143) (by decide) (by decide) ?_
      refine own_s_istore X64.here hx #[.val (.int c0), .val (.int l0), .val (.int i0), .val (.int s0), .val (.int j0), .val (.int t0), .val (.int cp), .val (.int ln), .val (.int jq), .val (.int jq), .val (.int sv), .val (.int tv), .val (.ref b54), .val (.int (1 : Int32))] (hb hby at_147) rfl ?_
      refine own_s_aload X64.here hx (hb hby at_149) rfl rfl ?_
      refine own_s_iload X64.here hx (hb hby at_151) rfl ?_
      refine own_s_iload X64.here hx (hb hby at_153) rfl ?_
      obtain ⟨cq65, kq65, q65a, q65b, q65c⟩ := isOf hZ e64 f61
      obtain ⟨_, _, ⟨T65, L65, k65, n65⟩, -, X65, ⟨Lc65, hQ65, l65, y65, z65⟩, st65⟩ := X64.virtualBack hx (y := (⟨"com/example/tallymark/tallymark/SlotArray", "set", "(II)V"⟩ : MethodName)) (z := (⟨"com/example/tallymark/tallymark/SlotArray", "set", "(II)V"⟩ : MethodName)) hown (mvT hZ (hw _ (List.mem_of_getElem? (i := 24) rfl))) (mvT hZ (hw _ (List.mem_of_getElem? (i := 25) rfl))) (notFace_of_selects (args := #[]) (mvT hZ (hw _ (List.mem_of_getElem? (i := 27) rfl)))) (mvT hZ (hw _ (List.mem_of_getElem? (i := 27) rfl))) (mvT hZ (hw _ (List.mem_of_getElem? (i := 26) rfl))) (by decide) (backOf (W := 0) (own_setn l Z a0 hw [] b54 jq tv a57 ln.toNatClampNeg jq.toNatClampNeg (own_upd (fun _ => (.int (0 : Int32))) jq.toNatClampNeg (.int (sv + (1 : Int32)))) T60.heap n0 SZ60 hj.1 hj.2 hnt f62 fa60 ga57 na57) hZ (hw _ (List.mem_of_getElem? (i := 28) rfl)) (hw _ (List.mem_of_getElem? (i := 8) rfl)) (by decide) (by decide)) q65a q65c (g := (mkF m 155 #[.val (.int c0), .val (.int l0), .val (.int i0), .val (.int s0), .val (.int j0), .val (.int t0), .val (.int cp), .val (.int ln), .val (.int jq), .val (.int jq), .val (.int sv), .val (.int tv), .val (.ref b54), .val (.int (1 : Int32))] [(.int tv), (.int jq), (.ref b54)])) rfl (by rw [hml]; rfl) (Steps.refl _) (argsL := [(.int jq), (.int tv)]) (rest := []) (lenOf own_pd_1 rfl) rfl (by show 2 * 0 + _ ≤ _; exact Nat.le_of_eq rfl) (hb hby at_155) (fun _ _ => ⟨rfl, e64, (by decide : 2 + 0 ≤ _), (by decide : 10 + 0 ≤ _)⟩)
      dsimp only [Pt.U, Pt.locs, Pt.cells, Pt.slots] at X65 l65 y65 z65 st65 hQ65
      subst l65 y65 z65
      obtain ⟨rfl, N65q, K65, fa65⟩ := hQ65
      have N65 := Fr.app N64 N65q
      have f66 := f61.keep K65
      have f67 := f62.keep K65 (ninS na57 nin0)
      have SZ65 : n0 ≤ T65.heap.size := Nat.le_trans SZ60 K65.1
      refine own_by (fun t k => st65.trans k) ?_
      show own_Go p e below T65 (mkF m 158 #[.val (.int c0), .val (.int l0), .val (.int i0), .val (.int s0), .val (.int j0), .val (.int t0), .val (.int cp), .val (.int ln), .val (.int jq), .val (.int jq), .val (.int sv), .val (.int tv), .val (.ref b54), .val (.int (1 : Int32))] []) _
      refine own_s_iload X65.here hx (hb hby at_158) rfl ?_
      refine own_s_ifNo X65.here hx (hb hby at_160) (Jvm.Free.XT.i0_eq_f ((by decide))) ?_
      refine own_s_aload X65.here hx (hb hby at_163) rfl rfl ?_
      refine own_s_iload X65.here hx (hb hby at_165) rfl ?_
      obtain ⟨cq68, kq68, q68a, q68b, q68c⟩ := isOf hZ rfl f66
      obtain ⟨_, _, ⟨T68, L68, k68, n68⟩, -, X68, ⟨Lc68, hQ68, l68, y68, z68⟩, st68⟩ := X65.virtualBack hx (y := (⟨"com/example/tallymark/tallymark/SlotArray", "get", "(I)I"⟩ : MethodName)) (z := (⟨"com/example/tallymark/tallymark/SlotArray", "get", "(I)I"⟩ : MethodName)) hown (mvT hZ (hw _ (List.mem_of_getElem? (i := 19) rfl))) (mvT hZ (hw _ (List.mem_of_getElem? (i := 20) rfl))) (notFace_of_selects (args := #[]) (mvT hZ (hw _ (List.mem_of_getElem? (i := 22) rfl)))) (mvT hZ (hw _ (List.mem_of_getElem? (i := 22) rfl))) (mvT hZ (hw _ (List.mem_of_getElem? (i := 21) rfl))) (by decide) (backOf (W := 0) (own_getn l Z a0 hw [] b54 jq a57 ln.toNatClampNeg jq.toNatClampNeg (own_upd (own_upd (fun _ => (.int (0 : Int32))) jq.toNatClampNeg (.int (sv + (1 : Int32)))) jq.toNatClampNeg (.int (tv + (1 : Int32)))) (tv + (1 : Int32)) T65.heap n0 SZ65 hj.1 hj.2 (own_upd_hit rfl) f67 fa65) hZ (hw _ (List.mem_of_getElem? (i := 23) rfl)) (hw _ (List.mem_of_getElem? (i := 8) rfl)) (by decide) (by decide)) q68a q68c (g := (mkF m 167 #[.val (.int c0), .val (.int l0), .val (.int i0), .val (.int s0), .val (.int j0), .val (.int t0), .val (.int cp), .val (.int ln), .val (.int jq), .val (.int jq), .val (.int sv), .val (.int tv), .val (.ref b54), .val (.int (1 : Int32))] [(.int jq), (.ref b54)])) rfl (by rw [hml]; rfl) (Steps.refl _) (argsL := [(.int jq)]) (rest := []) (lenOf own_pd_3 rfl) rfl (by show 2 * 0 + _ ≤ _; exact Nat.le_of_eq rfl) (hb hby at_167) (fun _ _ => ⟨rfl, rfl, (by decide : 2 + 0 ≤ _), (by decide : 10 + 0 ≤ _)⟩)
      dsimp only [Pt.U, Pt.locs, Pt.cells, Pt.slots] at X68 l68 y68 z68 st68 hQ68
      subst l68 y68 z68
      obtain ⟨rfl, N68q, e68⟩ := hQ68
      have N68 := Fr.app N65 N68q
      refine own_by (fun t k => st68.trans k) ?_
      show own_Go p e below T68 (mkF m 170 #[.val (.int c0), .val (.int l0), .val (.int i0), .val (.int s0), .val (.int j0), .val (.int t0), .val (.int cp), .val (.int ln), .val (.int jq), .val (.int jq), .val (.int sv), .val (.int tv), .val (.ref b54), .val (.int (1 : Int32))] [(.int ((tv + (1 : Int32)) - (1 : Int32)))]) _
      refine own_s_iload X68.here hx (hb hby at_170) rfl ?_
      refine own_s_iload X68.here hx (hb hby at_172) rfl ?_
      refine own_s_icmpNo X68.here hx (hb hby at_174) (Jvm.Free.XT.ii_ne_f rfl) ?_
      refine own_s_iload X68.here hx (hb hby at_177) rfl ?_
      show own_Go p e below T68 (mkF m 179 #[.val (.int c0), .val (.int l0), .val (.int i0), .val (.int s0), .val (.int j0), .val (.int t0), .val (.int cp), .val (.int ln), .val (.int jq), .val (.int jq), .val (.int sv), .val (.int tv), .val (.ref b54), .val (.int (1 : Int32))] [(.int tv), (.int ((tv + (1 : Int32)) - (1 : Int32)))]) _
      refine own_s_goto X68.here hx 184 (hb hby at_179) (by decide) (by decide) ?_
      refine own_s_icmpNo X68.here hx (hb hby at_184) (Jvm.Free.XT.ii_ne_f ((own_as _))) ?_
      refine own_s_iconst X68.here hx (1 : Int32) (hb hby at_187) rfl ?_
      show own_Go p e below T68 (mkF m 188 #[.val (.int c0), .val (.int l0), .val (.int i0), .val (.int s0), .val (.int j0), .val (.int t0), .val (.int cp), .val (.int ln), .val (.int jq), .val (.int jq), .val (.int sv), .val (.int tv), .val (.ref b54), .val (.int (1 : Int32))] [(.int (1 : Int32))]) _
      refine own_s_goto X68.here hx 192 (hb hby at_188) (by decide) (by decide) ?_
      refine own_s_istore X68.here hx #[.val (.int c0), .val (.int l0), .val (.int i0), .val (.int s0), .val (.int j0), .val (.int t0), .val (.int cp), .val (.int ln), .val (.int jq), .val (.int jq), .val (.int sv), .val (.int tv), .val (.ref b54), .val (.int (1 : Int32))] (hb hby at_192) rfl ?_
      refine own_s_iload X68.here hx (hb hby at_194) rfl ?_
      refine own_s_ifNo X68.here hx (hb hby at_196) (Jvm.Free.XT.i0_eq_f ((by decide))) ?_
      refine own_s_aload X68.here hx (hb hby at_199) rfl rfl ?_
      refine own_s_iload X68.here hx (hb hby at_201) rfl ?_
      obtain ⟨cq69, kq69, q69a, q69b, q69c⟩ := isOf hZ e68 f66
      obtain ⟨_, _, ⟨T69, L69, k69, n69⟩, -, X69, ⟨Lc69, hQ69, l69, y69, z69⟩, st69⟩ := X68.virtualBack hx (y := (⟨"com/example/tallymark/tallymark/SlotArray", "get", "(I)I"⟩ : MethodName)) (z := (⟨"com/example/tallymark/tallymark/SlotArray", "get", "(I)I"⟩ : MethodName)) hown (mvT hZ (hw _ (List.mem_of_getElem? (i := 19) rfl))) (mvT hZ (hw _ (List.mem_of_getElem? (i := 20) rfl))) (notFace_of_selects (args := #[]) (mvT hZ (hw _ (List.mem_of_getElem? (i := 22) rfl)))) (mvT hZ (hw _ (List.mem_of_getElem? (i := 22) rfl))) (mvT hZ (hw _ (List.mem_of_getElem? (i := 21) rfl))) (by decide) (backOf (W := 0) (own_getn l Z a0 hw [] b54 jq a57 ln.toNatClampNeg jq.toNatClampNeg (own_upd (own_upd (fun _ => (.int (0 : Int32))) jq.toNatClampNeg (.int (sv + (1 : Int32)))) jq.toNatClampNeg (.int (tv + (1 : Int32)))) (tv + (1 : Int32)) T65.heap n0 SZ65 hj.1 hj.2 (own_upd_hit rfl) f67 fa65) hZ (hw _ (List.mem_of_getElem? (i := 23) rfl)) (hw _ (List.mem_of_getElem? (i := 8) rfl)) (by decide) (by decide)) q69a q69c (g := (mkF m 203 #[.val (.int c0), .val (.int l0), .val (.int i0), .val (.int s0), .val (.int j0), .val (.int t0), .val (.int cp), .val (.int ln), .val (.int jq), .val (.int jq), .val (.int sv), .val (.int tv), .val (.ref b54), .val (.int (1 : Int32))] [(.int jq), (.ref b54)])) rfl (by rw [hml]; rfl) (Steps.refl _) (argsL := [(.int jq)]) (rest := []) (lenOf own_pd_3 rfl) rfl (by show 2 * 0 + _ ≤ _; exact Nat.le_of_eq rfl) (hb hby at_203) (fun _ _ => ⟨rfl, e68, (by decide : 2 + 0 ≤ _), (by decide : 10 + 0 ≤ _)⟩)
      dsimp only [Pt.U, Pt.locs, Pt.cells, Pt.slots] at X69 l69 y69 z69 st69 hQ69
      subst l69 y69 z69
      obtain ⟨rfl, N69q, e69⟩ := hQ69
      have N69 := Fr.app N68 N69q
      refine own_by (fun t k => st69.trans k) ?_
      show own_Go p e below T69 (mkF m 206 #[.val (.int c0), .val (.int l0), .val (.int i0), .val (.int s0), .val (.int j0), .val (.int t0), .val (.int cp), .val (.int ln), .val (.int jq), .val (.int jq), .val (.int sv), .val (.int tv), .val (.ref b54), .val (.int (1 : Int32))] [(.int ((tv + (1 : Int32)) - (1 : Int32)))]) _
      refine own_s_iload X69.here hx (hb hby at_206) rfl ?_
      refine own_s_icmpNo X69.here hx (hb hby at_208) (Jvm.Free.XT.ii_ne_f ((own_as _))) ?_
      refine own_s_iconst X69.here hx (1 : Int32) (hb hby at_211) rfl ?_
      show own_Go p e below T69 (mkF m 212 #[.val (.int c0), .val (.int l0), .val (.int i0), .val (.int s0), .val (.int j0), .val (.int t0), .val (.int cp), .val (.int ln), .val (.int jq), .val (.int jq), .val (.int sv), .val (.int tv), .val (.ref b54), .val (.int (1 : Int32))] [(.int (1 : Int32))]) _
      refine own_s_goto X69.here hx 216 (hb hby at_212) (by decide) (by decide) ?_
      refine own_s_istore X69.here hx #[.val (.int c0), .val (.int l0), .val (.int i0), .val (.int s0), .val (.int j0), .val (.int t0), .val (.int cp), .val (.int ln), .val (.int jq), .val (.int jq), .val (.int sv), .val (.int tv), .val (.ref b54), .val (.int (1 : Int32))] (hb hby at_216) rfl ?_
      refine own_s_iload X69.here hx (hb hby at_218) rfl ?_
      refine own_retZ X69 hx hret hlk (hb hby at_220) rfl (by decide) (by decide) ?_
      exact ⟨rfl, N69⟩
  ·
    have hkk : ¬ jq.toNatClampNeg = iq.toNatClampNeg := fun q => hji (own_idx hi.1 hj.1 q)
    have hkk' : ¬ iq.toNatClampNeg = jq.toNatClampNeg := fun q => hkk q.symm
    by_cases hm : (65535 : Int32) < cp
    ·
      obtain ⟨T70, h70, X70, e70, E70, A70, D70, -, st70⟩ := newO X35 hx hZ hown (hw _ (List.mem_of_getElem? (i := 6) rfl)) (hw _ (List.mem_of_getElem? (i := 7) rfl)) (hw _ (List.mem_of_getElem? (i := 8) rfl)) e35 (g := (mkF m 50 #[.val (.int c0), .val (.int l0), .val (.int i0), .val (.int s0), .val (.int j0), .val (.int t0), .val (.int cp), .val (.int ln), .val (.int iq), .val (.int jq), .val (.int sv), .val (.int tv), .unset, .unset] [])) rfl (hb hby at_50) (by decide) (by decide)
      obtain ⟨b70, g70⟩ : ∃ z, z = h0.size := ⟨_, rfl⟩
      rw [← g70] at A70 D70 st70
      have ge_b70 : n0 ≤ b70 := Nat.le_trans Z0 (Nat.le_of_eq g70.symm)
      have SZ70 : n0 ≤ h70.size := Nat.le_trans Z0 E70.1
      have f71 : Fld Z h70 b70 "com/example/tallymark/tallymark/SlotArray" "narrow" "[C" .null := D70 (Or.inl (hw _ (List.mem_of_getElem? (i := 18) rfl))) (ty := (.array .char)) (by decide)
      have f72 : Fld Z h70 b70 "com/example/tallymark/tallymark/SlotArray" "wide" "[I" .null := D70 (Or.inl (hw _ (List.mem_of_getElem? (i := 31) rfl))) (ty := (.array .int)) (by decide)
      refine own_by st70 ?_
      show own_Go p e below T70 (mkF m 53 #[.val (.int c0), .val (.int l0), .val (.int i0), .val (.int s0), .val (.int j0), .val (.int t0), .val (.int cp), .val (.int ln), .val (.int iq), .val (.int jq), .val (.int sv), .val (.int tv), .unset, .unset] [(.ref b70)]) _
      refine own_s_dup X70.here hx (hb hby at_53) rfl ?_
      refine own_s_iload X70.here hx (hb hby at_54) rfl ?_
      refine own_s_iload X70.here hx (hb hby at_56) rfl ?_
      obtain ⟨_, _, ⟨T73, L73, k73, n73⟩, -, X73, ⟨Lc73, hQ73, l73, y73, z73⟩, st73⟩ := X70.specialBack hx (y := (⟨"com/example/tallymark/tallymark/SlotArray", "<init>", "(II)V"⟩ : MethodName)) rfl hown (mvT hZ (hw _ (List.mem_of_getElem? (i := 9) rfl))) (mvT hZ (hw _ (List.mem_of_getElem? (i := 10) rfl))) (mvT hZ (hw _ (List.mem_of_getElem? (i := 11) rfl))) (by decide) (backOf (W := 1) (own_iniw l Z a0 hw [] b70 cp ln ln.toNatClampNeg h70 n0 SZ70 hm rfl hln8.1 hln8.2 A70 f71 f72 ge_b70) hZ (hw _ (List.mem_of_getElem? (i := 11) rfl)) (hw _ (List.mem_of_getElem? (i := 8) rfl)) (by decide) (by decide)) (g := (mkF m 58 #[.val (.int c0), .val (.int l0), .val (.int i0), .val (.int s0), .val (.int j0), .val (.int t0), .val (.int cp), .val (.int ln), .val (.int iq), .val (.int jq), .val (.int sv), .val (.int tv), .unset, .unset] [(.int ln), (.int cp), (.ref b70), (.ref b70)])) rfl (by rw [hml]; rfl) (Steps.refl _) (a := b70) (argsL := [(.int cp), (.int ln)]) (rest := [(.ref b70)]) (lenOf own_pd_1 rfl) rfl (by show 2 * 0 + _ ≤ _; exact Nat.le_of_eq rfl) (hb hby at_58) (fun _ _ => ⟨rfl, e70, (by decide : 1 + 1 ≤ _), (by decide : 2 + 8 ≤ _)⟩)
      dsimp only [Pt.U, Pt.locs, Pt.cells, Pt.slots] at X73 l73 y73 z73 st73 hQ73
      subst l73 y73 z73
      obtain ⟨rfl, N73q, K73, a73, ga73, na73, fn73, fa73, fz73⟩ := hQ73
      have N73 := Fr.app N35 N73q
      have f74 := A70.keep K73
      have SZ73 : n0 ≤ T73.heap.size := Nat.le_trans SZ70 K73.1
      refine own_by (fun t k => st73.trans k) ?_
      show own_Go p e below T73 (mkF m 61 #[.val (.int c0), .val (.int l0), .val (.int i0), .val (.int s0), .val (.int j0), .val (.int t0), .val (.int cp), .val (.int ln), .val (.int iq), .val (.int jq), .val (.int sv), .val (.int tv), .unset, .unset] [(.ref b70)]) _
      refine own_s_astore X73.here hx #[.val (.int c0), .val (.int l0), .val (.int i0), .val (.int s0), .val (.int j0), .val (.int t0), .val (.int cp), .val (.int ln), .val (.int iq), .val (.int jq), .val (.int sv), .val (.int tv), .val (.ref b70), .unset] (hb hby at_61) rfl rfl ?_
      refine own_s_aload X73.here hx (hb hby at_63) rfl rfl ?_
      refine own_s_iload X73.here hx (hb hby at_65) rfl ?_
      obtain ⟨cq75, kq75, q75a, q75b, q75c⟩ := isOf hZ rfl f74
      obtain ⟨_, _, ⟨T75, L75, k75, n75⟩, -, X75, ⟨Lc75, hQ75, l75, y75, z75⟩, st75⟩ := X73.virtualBack hx (y := (⟨"com/example/tallymark/tallymark/SlotArray", "get", "(I)I"⟩ : MethodName)) (z := (⟨"com/example/tallymark/tallymark/SlotArray", "get", "(I)I"⟩ : MethodName)) hown (mvT hZ (hw _ (List.mem_of_getElem? (i := 19) rfl))) (mvT hZ (hw _ (List.mem_of_getElem? (i := 20) rfl))) (notFace_of_selects (args := #[]) (mvT hZ (hw _ (List.mem_of_getElem? (i := 22) rfl)))) (mvT hZ (hw _ (List.mem_of_getElem? (i := 22) rfl))) (mvT hZ (hw _ (List.mem_of_getElem? (i := 21) rfl))) (by decide) (backOf (W := 0) (own_getw l Z a0 hw [] b70 jq a73 ln.toNatClampNeg jq.toNatClampNeg (fun _ => (.int (0 : Int32))) (0 : Int32) T73.heap n0 SZ73 hj.1 hj.2 rfl fn73 fz73 fa73) hZ (hw _ (List.mem_of_getElem? (i := 23) rfl)) (hw _ (List.mem_of_getElem? (i := 8) rfl)) (by decide) (by decide)) q75a q75c (g := (mkF m 67 #[.val (.int c0), .val (.int l0), .val (.int i0), .val (.int s0), .val (.int j0), .val (.int t0), .val (.int cp), .val (.int ln), .val (.int iq), .val (.int jq), .val (.int sv), .val (.int tv), .val (.ref b70), .unset] [(.int jq), (.ref b70)])) rfl (by rw [hml]; rfl) (Steps.refl _) (argsL := [(.int jq)]) (rest := []) (lenOf own_pd_3 rfl) rfl (by show 2 * 0 + _ ≤ _; exact Nat.le_of_eq rfl) (hb hby at_67) (fun _ _ => ⟨rfl, rfl, (by decide : 2 + 0 ≤ _), (by decide : 10 + 0 ≤ _)⟩)
      dsimp only [Pt.U, Pt.locs, Pt.cells, Pt.slots] at X75 l75 y75 z75 st75 hQ75
      subst l75 y75 z75
      obtain ⟨rfl, N75q, e75⟩ := hQ75
      have N75 := Fr.app N73 N75q
      refine own_by (fun t k => st75.trans k) ?_
      show own_Go p e below T75 (mkF m 70 #[.val (.int c0), .val (.int l0), .val (.int i0), .val (.int s0), .val (.int j0), .val (.int t0), .val (.int cp), .val (.int ln), .val (.int iq), .val (.int jq), .val (.int sv), .val (.int tv), .val (.ref b70), .unset] [(.int ((0 : Int32) - (1 : Int32)))]) _
      refine own_s_iconst X75.here hx (-1 : Int32) (hb hby at_70) rfl ?_
      refine own_s_icmpNo X75.here hx (hb hby at_71) (Jvm.Free.XT.ii_ne_f ((by decide))) ?_
      refine own_s_iconst X75.here hx (1 : Int32) (hb hby at_74) rfl ?_
      show own_Go p e below T75 (mkF m 75 #[.val (.int c0), .val (.int l0), .val (.int i0), .val (.int s0), .val (.int j0), .val (.int t0), .val (.int cp), .val (.int ln), .val (.int iq), .val (.int jq), .val (.int sv), .val (.int tv), .val (.ref b70), .unset] [(.int (1 : Int32))]) _
      refine own_s_goto X75.here hx 79 (hb hby at_75) (by decide) (by decide) ?_
      refine own_s_istore X75.here hx #[.val (.int c0), .val (.int l0), .val (.int i0), .val (.int s0), .val (.int j0), .val (.int t0), .val (.int cp), .val (.int ln), .val (.int iq), .val (.int jq), .val (.int sv), .val (.int tv), .val (.ref b70), .val (.int (1 : Int32))] (hb hby at_79) rfl ?_
      refine own_s_aload X75.here hx (hb hby at_81) rfl rfl ?_
      refine own_s_iload X75.here hx (hb hby at_83) rfl ?_
      refine own_s_iload X75.here hx (hb hby at_85) rfl ?_
      obtain ⟨cq76, kq76, q76a, q76b, q76c⟩ := isOf hZ e75 f74
      obtain ⟨_, _, ⟨T76, L76, k76, n76⟩, -, X76, ⟨Lc76, hQ76, l76, y76, z76⟩, st76⟩ := X75.virtualBack hx (y := (⟨"com/example/tallymark/tallymark/SlotArray", "set", "(II)V"⟩ : MethodName)) (z := (⟨"com/example/tallymark/tallymark/SlotArray", "set", "(II)V"⟩ : MethodName)) hown (mvT hZ (hw _ (List.mem_of_getElem? (i := 24) rfl))) (mvT hZ (hw _ (List.mem_of_getElem? (i := 25) rfl))) (notFace_of_selects (args := #[]) (mvT hZ (hw _ (List.mem_of_getElem? (i := 27) rfl)))) (mvT hZ (hw _ (List.mem_of_getElem? (i := 27) rfl))) (mvT hZ (hw _ (List.mem_of_getElem? (i := 26) rfl))) (by decide) (backOf (W := 0) (own_setw l Z a0 hw [] b70 iq sv a73 ln.toNatClampNeg iq.toNatClampNeg (fun _ => (.int (0 : Int32))) T73.heap n0 SZ73 hi.1 hi.2 fn73 fz73 fa73 ga73 na73) hZ (hw _ (List.mem_of_getElem? (i := 28) rfl)) (hw _ (List.mem_of_getElem? (i := 8) rfl)) (by decide) (by decide)) q76a q76c (g := (mkF m 87 #[.val (.int c0), .val (.int l0), .val (.int i0), .val (.int s0), .val (.int j0), .val (.int t0), .val (.int cp), .val (.int ln), .val (.int iq), .val (.int jq), .val (.int sv), .val (.int tv), .val (.ref b70), .val (.int (1 : Int32))] [(.int sv), (.int iq), (.ref b70)])) rfl (by rw [hml]; rfl) (Steps.refl _) (argsL := [(.int iq), (.int sv)]) (rest := []) (lenOf own_pd_1 rfl) rfl (by show 2 * 0 + _ ≤ _; exact Nat.le_of_eq rfl) (hb hby at_87) (fun _ _ => ⟨rfl, e75, (by decide : 2 + 0 ≤ _), (by decide : 10 + 0 ≤ _)⟩)
      dsimp only [Pt.U, Pt.locs, Pt.cells, Pt.slots] at X76 l76 y76 z76 st76 hQ76
      subst l76 y76 z76
      obtain ⟨rfl, N76q, K76, fa76⟩ := hQ76
      have N76 := Fr.app N75 N76q
      have f77 := f74.keep K76
      have f78 := fn73.keep K76 (ninS na73 nin0)
      have f79 := fz73.keep K76 (ninS na73 nin0)
      have SZ76 : n0 ≤ T76.heap.size := Nat.le_trans SZ73 K76.1
      refine own_by (fun t k => st76.trans k) ?_
      show own_Go p e below T76 (mkF m 90 #[.val (.int c0), .val (.int l0), .val (.int i0), .val (.int s0), .val (.int j0), .val (.int t0), .val (.int cp), .val (.int ln), .val (.int iq), .val (.int jq), .val (.int sv), .val (.int tv), .val (.ref b70), .val (.int (1 : Int32))] []) _
      refine own_s_iload X76.here hx (hb hby at_90) rfl ?_
      refine own_s_ifNo X76.here hx (hb hby at_92) (Jvm.Free.XT.i0_eq_f ((by decide))) ?_
      refine own_s_aload X76.here hx (hb hby at_95) rfl rfl ?_
      refine own_s_iload X76.here hx (hb hby at_97) rfl ?_
      obtain ⟨cq80, kq80, q80a, q80b, q80c⟩ := isOf hZ rfl f77
      obtain ⟨_, _, ⟨T80, L80, k80, n80⟩, -, X80, ⟨Lc80, hQ80, l80, y80, z80⟩, st80⟩ := X76.virtualBack hx (y := (⟨"com/example/tallymark/tallymark/SlotArray", "get", "(I)I"⟩ : MethodName)) (z := (⟨"com/example/tallymark/tallymark/SlotArray", "get", "(I)I"⟩ : MethodName)) hown (mvT hZ (hw _ (List.mem_of_getElem? (i := 19) rfl))) (mvT hZ (hw _ (List.mem_of_getElem? (i := 20) rfl))) (notFace_of_selects (args := #[]) (mvT hZ (hw _ (List.mem_of_getElem? (i := 22) rfl)))) (mvT hZ (hw _ (List.mem_of_getElem? (i := 22) rfl))) (mvT hZ (hw _ (List.mem_of_getElem? (i := 21) rfl))) (by decide) (backOf (W := 0) (own_getw l Z a0 hw [] b70 iq a73 ln.toNatClampNeg iq.toNatClampNeg (own_upd (fun _ => (.int (0 : Int32))) iq.toNatClampNeg (.int (sv + (1 : Int32)))) (sv + (1 : Int32)) T76.heap n0 SZ76 hi.1 hi.2 (own_upd_hit rfl) f78 f79 fa76) hZ (hw _ (List.mem_of_getElem? (i := 23) rfl)) (hw _ (List.mem_of_getElem? (i := 8) rfl)) (by decide) (by decide)) q80a q80c (g := (mkF m 99 #[.val (.int c0), .val (.int l0), .val (.int i0), .val (.int s0), .val (.int j0), .val (.int t0), .val (.int cp), .val (.int ln), .val (.int iq), .val (.int jq), .val (.int sv), .val (.int tv), .val (.ref b70), .val (.int (1 : Int32))] [(.int iq), (.ref b70)])) rfl (by rw [hml]; rfl) (Steps.refl _) (argsL := [(.int iq)]) (rest := []) (lenOf own_pd_3 rfl) rfl (by show 2 * 0 + _ ≤ _; exact Nat.le_of_eq rfl) (hb hby at_99) (fun _ _ => ⟨rfl, rfl, (by decide : 2 + 0 ≤ _), (by decide : 10 + 0 ≤ _)⟩)
      dsimp only [Pt.U, Pt.locs, Pt.cells, Pt.slots] at X80 l80 y80 z80 st80 hQ80
      subst l80 y80 z80
      obtain ⟨rfl, N80q, e80⟩ := hQ80
      have N80 := Fr.app N76 N80q
      refine own_by (fun t k => st80.trans k) ?_
      show own_Go p e below T80 (mkF m 102 #[.val (.int c0), .val (.int l0), .val (.int i0), .val (.int s0), .val (.int j0), .val (.int t0), .val (.int cp), .val (.int ln), .val (.int iq), .val (.int jq), .val (.int sv), .val (.int tv), .val (.ref b70), .val (.int (1 : Int32))] [(.int ((sv + (1 : Int32)) - (1 : Int32)))]) _
      refine own_s_iload X80.here hx (hb hby at_102) rfl ?_
      refine own_s_icmpNo X80.here hx (hb hby at_104) (Jvm.Free.XT.ii_ne_f ((own_as _))) ?_
      refine own_s_iconst X80.here hx (1 : Int32) (hb hby at_107) rfl ?_
      show own_Go p e below T80 (mkF m 108 #[.val (.int c0), .val (.int l0), .val (.int i0), .val (.int s0), .val (.int j0), .val (.int t0), .val (.int cp), .val (.int ln), .val (.int iq), .val (.int jq), .val (.int sv), .val (.int tv), .val (.ref b70), .val (.int (1 : Int32))] [(.int (1 : Int32))]) _
      refine own_s_goto X80.here hx 112 (hb hby at_108) (by decide) (by decide) ?_
      refine own_s_istore X80.here hx #[.val (.int c0), .val (.int l0), .val (.int i0), .val (.int s0), .val (.int j0), .val (.int t0), .val (.int cp), .val (.int ln), .val (.int iq), .val (.int jq), .val (.int sv), .val (.int tv), .val (.ref b70), .val (.int (1 : Int32))] (hb hby at_112) rfl ?_
      refine own_s_iload X80.here hx (hb hby at_114) rfl ?_
      refine own_s_ifNo X80.here hx (hb hby at_116) (Jvm.Free.XT.i0_eq_f ((by decide))) ?_
      refine own_s_aload X80.here hx (hb hby at_119) rfl rfl ?_
      refine own_s_iload X80.here hx (hb hby at_121) rfl ?_
      obtain ⟨cq81, kq81, q81a, q81b, q81c⟩ := isOf hZ e80 f77
      obtain ⟨_, _, ⟨T81, L81, k81, n81⟩, -, X81, ⟨Lc81, hQ81, l81, y81, z81⟩, st81⟩ := X80.virtualBack hx (y := (⟨"com/example/tallymark/tallymark/SlotArray", "get", "(I)I"⟩ : MethodName)) (z := (⟨"com/example/tallymark/tallymark/SlotArray", "get", "(I)I"⟩ : MethodName)) hown (mvT hZ (hw _ (List.mem_of_getElem? (i := 19) rfl))) (mvT hZ (hw _ (List.mem_of_getElem? (i := 20) rfl))) (notFace_of_selects (args := #[]) (mvT hZ (hw _ (List.mem_of_getElem? (i := 22) rfl)))) (mvT hZ (hw _ (List.mem_of_getElem? (i := 22) rfl))) (mvT hZ (hw _ (List.mem_of_getElem? (i := 21) rfl))) (by decide) (backOf (W := 0) (own_getw l Z a0 hw [] b70 jq a73 ln.toNatClampNeg jq.toNatClampNeg (own_upd (fun _ => (.int (0 : Int32))) iq.toNatClampNeg (.int (sv + (1 : Int32)))) (0 : Int32) T76.heap n0 SZ76 hj.1 hj.2 ((own_upd_miss hkk).trans rfl) f78 f79 fa76) hZ (hw _ (List.mem_of_getElem? (i := 23) rfl)) (hw _ (List.mem_of_getElem? (i := 8) rfl)) (by decide) (by decide)) q81a q81c (g := (mkF m 123 #[.val (.int c0), .val (.int l0), .val (.int i0), .val (.int s0), .val (.int j0), .val (.int t0), .val (.int cp), .val (.int ln), .val (.int iq), .val (.int jq), .val (.int sv), .val (.int tv), .val (.ref b70), .val (.int (1 : Int32))] [(.int jq), (.ref b70)])) rfl (by rw [hml]; rfl) (Steps.refl _) (argsL := [(.int jq)]) (rest := []) (lenOf own_pd_3 rfl) rfl (by show 2 * 0 + _ ≤ _; exact Nat.le_of_eq rfl) (hb hby at_123) (fun _ _ => ⟨rfl, e80, (by decide : 2 + 0 ≤ _), (by decide : 10 + 0 ≤ _)⟩)
      dsimp only [Pt.U, Pt.locs, Pt.cells, Pt.slots] at X81 l81 y81 z81 st81 hQ81
      subst l81 y81 z81
      obtain ⟨rfl, N81q, e81⟩ := hQ81
      have N81 := Fr.app N80 N81q
      refine own_by (fun t k => st81.trans k) ?_
      show own_Go p e below T81 (mkF m 126 #[.val (.int c0), .val (.int l0), .val (.int i0), .val (.int s0), .val (.int j0), .val (.int t0), .val (.int cp), .val (.int ln), .val (.int iq), .val (.int jq), .val (.int sv), .val (.int tv), .val (.ref b70), .val (.int (1 : Int32))] [(.int ((0 : Int32) - (1 : Int32)))]) _
      refine own_s_iload X81.here hx (hb hby at_126) rfl ?_
      refine own_s_iload X81.here hx (hb hby at_128) rfl ?_
      show own_Go p e below T81 (mkF m 130 #[.val (.int c0), .val (.int l0), .val (.int i0), .val (.int s0), .val (.int j0), .val (.int t0), .val (.int cp), .val (.int ln), .val (.int iq), .val (.int jq), .val (.int sv), .val (.int tv), .val (.ref b70), .val (.int (1 : Int32))] [(.int iq), (.int jq), (.int ((0 : Int32) - (1 : Int32)))]) _
      refine own_s_icmpYes X81.here hx 138 (hb hby at_130) (Jvm.Free.XT.ii_ne_t hji) (by decide) (by decide) ?_
      refine own_s_iconst X81.here hx (-1 : Int32) (hb hby at_138) rfl ?_
      refine own_s_icmpNo X81.here hx (hb hby at_139) (Jvm.Free.XT.ii_ne_f ((by decide))) ?_
      refine own_s_iconst X81.here hx (1 : Int32) (hb hby at_142) rfl ?_
      show own_Go p e below T81 (mkF m 143 #[.val (.int c0), .val (.int l0), .val (.int i0), .val (.int s0), .val (.int j0), .val (.int t0), .val (.int cp), .val (.int ln), .val (.int iq), .val (.int jq), .val (.int sv), .val (.int tv), .val (.ref b70), .val (.int (1 : Int32))] [(.int (1 : Int32))]) _
      refine own_s_goto X81.here hx 147 (hb hby at_143) (by decide) (by decide) ?_
      refine own_s_istore X81.here hx #[.val (.int c0), .val (.int l0), .val (.int i0), .val (.int s0), .val (.int j0), .val (.int t0), .val (.int cp), .val (.int ln), .val (.int iq), .val (.int jq), .val (.int sv), .val (.int tv), .val (.ref b70), .val (.int (1 : Int32))] (hb hby at_147) rfl ?_
      refine own_s_aload X81.here hx (hb hby at_149) rfl rfl ?_
      refine own_s_iload X81.here hx (hb hby at_151) rfl ?_
      refine own_s_iload X81.here hx (hb hby at_153) rfl ?_
      obtain ⟨cq82, kq82, q82a, q82b, q82c⟩ := isOf hZ e81 f77
      obtain ⟨_, _, ⟨T82, L82, k82, n82⟩, -, X82, ⟨Lc82, hQ82, l82, y82, z82⟩, st82⟩ := X81.virtualBack hx (y := (⟨"com/example/tallymark/tallymark/SlotArray", "set", "(II)V"⟩ : MethodName)) (z := (⟨"com/example/tallymark/tallymark/SlotArray", "set", "(II)V"⟩ : MethodName)) hown (mvT hZ (hw _ (List.mem_of_getElem? (i := 24) rfl))) (mvT hZ (hw _ (List.mem_of_getElem? (i := 25) rfl))) (notFace_of_selects (args := #[]) (mvT hZ (hw _ (List.mem_of_getElem? (i := 27) rfl)))) (mvT hZ (hw _ (List.mem_of_getElem? (i := 27) rfl))) (mvT hZ (hw _ (List.mem_of_getElem? (i := 26) rfl))) (by decide) (backOf (W := 0) (own_setw l Z a0 hw [] b70 jq tv a73 ln.toNatClampNeg jq.toNatClampNeg (own_upd (fun _ => (.int (0 : Int32))) iq.toNatClampNeg (.int (sv + (1 : Int32)))) T76.heap n0 SZ76 hj.1 hj.2 f78 f79 fa76 ga73 na73) hZ (hw _ (List.mem_of_getElem? (i := 28) rfl)) (hw _ (List.mem_of_getElem? (i := 8) rfl)) (by decide) (by decide)) q82a q82c (g := (mkF m 155 #[.val (.int c0), .val (.int l0), .val (.int i0), .val (.int s0), .val (.int j0), .val (.int t0), .val (.int cp), .val (.int ln), .val (.int iq), .val (.int jq), .val (.int sv), .val (.int tv), .val (.ref b70), .val (.int (1 : Int32))] [(.int tv), (.int jq), (.ref b70)])) rfl (by rw [hml]; rfl) (Steps.refl _) (argsL := [(.int jq), (.int tv)]) (rest := []) (lenOf own_pd_1 rfl) rfl (by show 2 * 0 + _ ≤ _; exact Nat.le_of_eq rfl) (hb hby at_155) (fun _ _ => ⟨rfl, e81, (by decide : 2 + 0 ≤ _), (by decide : 10 + 0 ≤ _)⟩)
      dsimp only [Pt.U, Pt.locs, Pt.cells, Pt.slots] at X82 l82 y82 z82 st82 hQ82
      subst l82 y82 z82
      obtain ⟨rfl, N82q, K82, fa82⟩ := hQ82
      have N82 := Fr.app N81 N82q
      have f83 := f77.keep K82
      have f84 := f78.keep K82 (ninS na73 nin0)
      have f85 := f79.keep K82 (ninS na73 nin0)
      have SZ82 : n0 ≤ T82.heap.size := Nat.le_trans SZ76 K82.1
      refine own_by (fun t k => st82.trans k) ?_
      show own_Go p e below T82 (mkF m 158 #[.val (.int c0), .val (.int l0), .val (.int i0), .val (.int s0), .val (.int j0), .val (.int t0), .val (.int cp), .val (.int ln), .val (.int iq), .val (.int jq), .val (.int sv), .val (.int tv), .val (.ref b70), .val (.int (1 : Int32))] []) _
      refine own_s_iload X82.here hx (hb hby at_158) rfl ?_
      refine own_s_ifNo X82.here hx (hb hby at_160) (Jvm.Free.XT.i0_eq_f ((by decide))) ?_
      refine own_s_aload X82.here hx (hb hby at_163) rfl rfl ?_
      refine own_s_iload X82.here hx (hb hby at_165) rfl ?_
      obtain ⟨cq86, kq86, q86a, q86b, q86c⟩ := isOf hZ rfl f83
      obtain ⟨_, _, ⟨T86, L86, k86, n86⟩, -, X86, ⟨Lc86, hQ86, l86, y86, z86⟩, st86⟩ := X82.virtualBack hx (y := (⟨"com/example/tallymark/tallymark/SlotArray", "get", "(I)I"⟩ : MethodName)) (z := (⟨"com/example/tallymark/tallymark/SlotArray", "get", "(I)I"⟩ : MethodName)) hown (mvT hZ (hw _ (List.mem_of_getElem? (i := 19) rfl))) (mvT hZ (hw _ (List.mem_of_getElem? (i := 20) rfl))) (notFace_of_selects (args := #[]) (mvT hZ (hw _ (List.mem_of_getElem? (i := 22) rfl)))) (mvT hZ (hw _ (List.mem_of_getElem? (i := 22) rfl))) (mvT hZ (hw _ (List.mem_of_getElem? (i := 21) rfl))) (by decide) (backOf (W := 0) (own_getw l Z a0 hw [] b70 iq a73 ln.toNatClampNeg iq.toNatClampNeg (own_upd (own_upd (fun _ => (.int (0 : Int32))) iq.toNatClampNeg (.int (sv + (1 : Int32)))) jq.toNatClampNeg (.int (tv + (1 : Int32)))) (sv + (1 : Int32)) T82.heap n0 SZ82 hi.1 hi.2 ((own_upd_miss hkk').trans (own_upd_hit rfl)) f84 f85 fa82) hZ (hw _ (List.mem_of_getElem? (i := 23) rfl)) (hw _ (List.mem_of_getElem? (i := 8) rfl)) (by decide) (by decide)) q86a q86c (g := (mkF m 167 #[.val (.int c0), .val (.int l0), .val (.int i0), .val (.int s0), .val (.int j0), .val (.int t0), .val (.int cp), .val (.int ln), .val (.int iq), .val (.int jq), .val (.int sv), .val (.int tv), .val (.ref b70), .val (.int (1 : Int32))] [(.int iq), (.ref b70)])) rfl (by rw [hml]; rfl) (Steps.refl _) (argsL := [(.int iq)]) (rest := []) (lenOf own_pd_3 rfl) rfl (by show 2 * 0 + _ ≤ _; exact Nat.le_of_eq rfl) (hb hby at_167) (fun _ _ => ⟨rfl, rfl, (by decide : 2 + 0 ≤ _), (by decide : 10 + 0 ≤ _)⟩)
      dsimp only [Pt.U, Pt.locs, Pt.cells, Pt.slots] at X86 l86 y86 z86 st86 hQ86
      subst l86 y86 z86
      obtain ⟨rfl, N86q, e86⟩ := hQ86
      have N86 := Fr.app N82 N86q
      refine own_by (fun t k => st86.trans k) ?_
      show own_Go p e below T86 (mkF m 170 #[.val (.int c0), .val (.int l0), .val (.int i0), .val (.int s0), .val (.int j0), .val (.int t0), .val (.int cp), .val (.int ln), .val (.int iq), .val (.int jq), .val (.int sv), .val (.int tv), .val (.ref b70), .val (.int (1 : Int32))] [(.int ((sv + (1 : Int32)) - (1 : Int32)))]) _
      refine own_s_iload X86.here hx (hb hby at_170) rfl ?_
      refine own_s_iload X86.here hx (hb hby at_172) rfl ?_
      show own_Go p e below T86 (mkF m 174 #[.val (.int c0), .val (.int l0), .val (.int i0), .val (.int s0), .val (.int j0), .val (.int t0), .val (.int cp), .val (.int ln), .val (.int iq), .val (.int jq), .val (.int sv), .val (.int tv), .val (.ref b70), .val (.int (1 : Int32))] [(.int iq), (.int jq), (.int ((sv + (1 : Int32)) - (1 : Int32)))]) _
      refine own_s_icmpYes X86.here hx 182 (hb hby at_174) (Jvm.Free.XT.ii_ne_t hji) (by decide) (by decide) ?_
      refine own_s_iload X86.here hx (hb hby at_182) rfl ?_
      refine own_s_icmpNo X86.here hx (hb hby at_184) (Jvm.Free.XT.ii_ne_f ((own_as _))) ?_
      refine own_s_iconst X86.here hx (1 : Int32) (hb hby at_187) rfl ?_
      show own_Go p e below T86 (mkF m 188 #[.val (.int c0), .val (.int l0), .val (.int i0), .val (.int s0), .val (.int j0), .val (.int t0), .val (.int cp), .val (.int ln), .val (.int iq), .val (.int jq), .val (.int sv), .val (.int tv), .val (.ref b70), .val (.int (1 : Int32))] [(.int (1 : Int32))]) _
      refine own_s_goto X86.here hx 192 (hb hby at_188) (by decide) (by decide) ?_
      refine own_s_istore X86.here hx #[.val (.int c0), .val (.int l0), .val (.int i0), .val (.int s0), .val (.int j0), .val (.int t0), .val (.int cp), .val (.int ln), .val (.int iq), .val (.int jq), .val (.int sv), .val (.int tv), .val (.ref b70), .val (.int (1 : Int32))] (hb hby at_192) rfl ?_
      refine own_s_iload X86.here hx (hb hby at_194) rfl ?_
      refine own_s_ifNo X86.here hx (hb hby at_196) (Jvm.Free.XT.i0_eq_f ((by decide))) ?_
      refine own_s_aload X86.here hx (hb hby at_199) rfl rfl ?_
      refine own_s_iload X86.here hx (hb hby at_201) rfl ?_
      obtain ⟨cq87, kq87, q87a, q87b, q87c⟩ := isOf hZ e86 f83
      obtain ⟨_, _, ⟨T87, L87, k87, n87⟩, -, X87, ⟨Lc87, hQ87, l87, y87, z87⟩, st87⟩ := X86.virtualBack hx (y := (⟨"com/example/tallymark/tallymark/SlotArray", "get", "(I)I"⟩ : MethodName)) (z := (⟨"com/example/tallymark/tallymark/SlotArray", "get", "(I)I"⟩ : MethodName)) hown (mvT hZ (hw _ (List.mem_of_getElem? (i := 19) rfl))) (mvT hZ (hw _ (List.mem_of_getElem? (i := 20) rfl))) (notFace_of_selects (args := #[]) (mvT hZ (hw _ (List.mem_of_getElem? (i := 22) rfl)))) (mvT hZ (hw _ (List.mem_of_getElem? (i := 22) rfl))) (mvT hZ (hw _ (List.mem_of_getElem? (i := 21) rfl))) (by decide) (backOf (W := 0) (own_getw l Z a0 hw [] b70 jq a73 ln.toNatClampNeg jq.toNatClampNeg (own_upd (own_upd (fun _ => (.int (0 : Int32))) iq.toNatClampNeg (.int (sv + (1 : Int32)))) jq.toNatClampNeg (.int (tv + (1 : Int32)))) (tv + (1 : Int32)) T82.heap n0 SZ82 hj.1 hj.2 (own_upd_hit rfl) f84 f85 fa82) hZ (hw _ (List.mem_of_getElem? (i := 23) rfl)) (hw _ (List.mem_of_getElem? (i := 8) rfl)) (by decide) (by decide)) q87a q87c (g := (mkF m 203 #[.val (.int c0), .val (.int l0), .val (.int i0), .val (.int s0), .val (.int j0), .val (.int t0), .val (.int cp), .val (.int ln), .val (.int iq), .val (.int jq), .val (.int sv), .val (.int tv), .val (.ref b70), .val (.int (1 : Int32))] [(.int jq), (.ref b70)])) rfl (by rw [hml]; rfl) (Steps.refl _) (argsL := [(.int jq)]) (rest := []) (lenOf own_pd_3 rfl) rfl (by show 2 * 0 + _ ≤ _; exact Nat.le_of_eq rfl) (hb hby at_203) (fun _ _ => ⟨rfl, e86, (by decide : 2 + 0 ≤ _), (by decide : 10 + 0 ≤ _)⟩)
      dsimp only [Pt.U, Pt.locs, Pt.cells, Pt.slots] at X87 l87 y87 z87 st87 hQ87
      subst l87 y87 z87
      obtain ⟨rfl, N87q, e87⟩ := hQ87
      have N87 := Fr.app N86 N87q
      refine own_by (fun t k => st87.trans k) ?_
      show own_Go p e below T87 (mkF m 206 #[.val (.int c0), .val (.int l0), .val (.int i0), .val (.int s0), .val (.int j0), .val (.int t0), .val (.int cp), .val (.int ln), .val (.int iq), .val (.int jq), .val (.int sv), .val (.int tv), .val (.ref b70), .val (.int (1 : Int32))] [(.int ((tv + (1 : Int32)) - (1 : Int32)))]) _
      refine own_s_iload X87.here hx (hb hby at_206) rfl ?_
      refine own_s_icmpNo X87.here hx (hb hby at_208) (Jvm.Free.XT.ii_ne_f ((own_as _))) ?_
      refine own_s_iconst X87.here hx (1 : Int32) (hb hby at_211) rfl ?_
      show own_Go p e below T87 (mkF m 212 #[.val (.int c0), .val (.int l0), .val (.int i0), .val (.int s0), .val (.int j0), .val (.int t0), .val (.int cp), .val (.int ln), .val (.int iq), .val (.int jq), .val (.int sv), .val (.int tv), .val (.ref b70), .val (.int (1 : Int32))] [(.int (1 : Int32))]) _
      refine own_s_goto X87.here hx 216 (hb hby at_212) (by decide) (by decide) ?_
      refine own_s_istore X87.here hx #[.val (.int c0), .val (.int l0), .val (.int i0), .val (.int s0), .val (.int j0), .val (.int t0), .val (.int cp), .val (.int ln), .val (.int iq), .val (.int jq), .val (.int sv), .val (.int tv), .val (.ref b70), .val (.int (1 : Int32))] (hb hby at_216) rfl ?_
      refine own_s_iload X87.here hx (hb hby at_218) rfl ?_
      refine own_retZ X87 hx hret hlk (hb hby at_220) rfl (by decide) (by decide) ?_
      exact ⟨rfl, N87⟩
    ·
      have hns : nar .char ((sv + (1 : Int32)).toUInt32.toUInt16.toUInt32.toInt32) = (sv + (1 : Int32)) := by rw [← hsv]; exact own_pick_n cp s0 hcb hm
      have hnt : nar .char ((tv + (1 : Int32)).toUInt32.toUInt16.toUInt32.toInt32) = (tv + (1 : Int32)) := by rw [← htv]; exact own_pick_n cp t0 hcb hm
      obtain ⟨T88, h88, X88, e88, E88, A88, D88, -, st88⟩ := newO X35 hx hZ hown (hw _ (List.mem_of_getElem? (i := 6) rfl)) (hw _ (List.mem_of_getElem? (i := 7) rfl)) (hw _ (List.mem_of_getElem? (i := 8) rfl)) e35 (g := (mkF m 50 #[.val (.int c0), .val (.int l0), .val (.int i0), .val (.int s0), .val (.int j0), .val (.int t0), .val (.int cp), .val (.int ln), .val (.int iq), .val (.int jq), .val (.int sv), .val (.int tv), .unset, .unset] [])) rfl (hb hby at_50) (by decide) (by decide)
      obtain ⟨b88, g88⟩ : ∃ z, z = h0.size := ⟨_, rfl⟩
      rw [← g88] at A88 D88 st88
      have ge_b88 : n0 ≤ b88 := Nat.le_trans Z0 (Nat.le_of_eq g88.symm)
      have SZ88 : n0 ≤ h88.size := Nat.le_trans Z0 E88.1
      have f89 : Fld Z h88 b88 "com/example/tallymark/tallymark/SlotArray" "narrow" "[C" .null := D88 (Or.inl (hw _ (List.mem_of_getElem? (i := 18) rfl))) (ty := (.array .char)) (by decide)
      have f90 : Fld Z h88 b88 "com/example/tallymark/tallymark/SlotArray" "wide" "[I" .null := D88 (Or.inl (hw _ (List.mem_of_getElem? (i := 31) rfl))) (ty := (.array .int)) (by decide)
      refine own_by st88 ?_
      show own_Go p e below T88 (mkF m 53 #[.val (.int c0), .val (.int l0), .val (.int i0), .val (.int s0), .val (.int j0), .val (.int t0), .val (.int cp), .val (.int ln), .val (.int iq), .val (.int jq), .val (.int sv), .val (.int tv), .unset, .unset] [(.ref b88)]) _
      refine own_s_dup X88.here hx (hb hby at_53) rfl ?_
      refine own_s_iload X88.here hx (hb hby at_54) rfl ?_
      refine own_s_iload X88.here hx (hb hby at_56) rfl ?_
      obtain ⟨_, _, ⟨T91, L91, k91, n91⟩, -, X91, ⟨Lc91, hQ91, l91, y91, z91⟩, st91⟩ := X88.specialBack hx (y := (⟨"com/example/tallymark/tallymark/SlotArray", "<init>", "(II)V"⟩ : MethodName)) rfl hown (mvT hZ (hw _ (List.mem_of_getElem? (i := 9) rfl))) (mvT hZ (hw _ (List.mem_of_getElem? (i := 10) rfl))) (mvT hZ (hw _ (List.mem_of_getElem? (i := 11) rfl))) (by decide) (backOf (W := 1) (own_inin l Z a0 hw [] b88 cp ln ln.toNatClampNeg h88 n0 SZ88 hm rfl hln8.1 hln8.2 A88 f89 f90 ge_b88) hZ (hw _ (List.mem_of_getElem? (i := 11) rfl)) (hw _ (List.mem_of_getElem? (i := 8) rfl)) (by decide) (by decide)) (g := (mkF m 58 #[.val (.int c0), .val (.int l0), .val (.int i0), .val (.int s0), .val (.int j0), .val (.int t0), .val (.int cp), .val (.int ln), .val (.int iq), .val (.int jq), .val (.int sv), .val (.int tv), .unset, .unset] [(.int ln), (.int cp), (.ref b88), (.ref b88)])) rfl (by rw [hml]; rfl) (Steps.refl _) (a := b88) (argsL := [(.int cp), (.int ln)]) (rest := [(.ref b88)]) (lenOf own_pd_1 rfl) rfl (by show 2 * 0 + _ ≤ _; exact Nat.le_of_eq rfl) (hb hby at_58) (fun _ _ => ⟨rfl, e88, (by decide : 1 + 1 ≤ _), (by decide : 2 + 8 ≤ _)⟩)
      dsimp only [Pt.U, Pt.locs, Pt.cells, Pt.slots] at X91 l91 y91 z91 st91 hQ91
      subst l91 y91 z91
      obtain ⟨rfl, N91q, K91, a91, ga91, na91, fn91, fa91⟩ := hQ91
      have N91 := Fr.app N35 N91q
      have f92 := A88.keep K91
      have SZ91 : n0 ≤ T91.heap.size := Nat.le_trans SZ88 K91.1
      refine own_by (fun t k => st91.trans k) ?_
      show own_Go p e below T91 (mkF m 61 #[.val (.int c0), .val (.int l0), .val (.int i0), .val (.int s0), .val (.int j0), .val (.int t0), .val (.int cp), .val (.int ln), .val (.int iq), .val (.int jq), .val (.int sv), .val (.int tv), .unset, .unset] [(.ref b88)]) _
      refine own_s_astore X91.here hx #[.val (.int c0), .val (.int l0), .val (.int i0), .val (.int s0), .val (.int j0), .val (.int t0), .val (.int cp), .val (.int ln), .val (.int iq), .val (.int jq), .val (.int sv), .val (.int tv), .val (.ref b88), .unset] (hb hby at_61) rfl rfl ?_
      refine own_s_aload X91.here hx (hb hby at_63) rfl rfl ?_
      refine own_s_iload X91.here hx (hb hby at_65) rfl ?_
      obtain ⟨cq93, kq93, q93a, q93b, q93c⟩ := isOf hZ rfl f92
      obtain ⟨_, _, ⟨T93, L93, k93, n93⟩, -, X93, ⟨Lc93, hQ93, l93, y93, z93⟩, st93⟩ := X91.virtualBack hx (y := (⟨"com/example/tallymark/tallymark/SlotArray", "get", "(I)I"⟩ : MethodName)) (z := (⟨"com/example/tallymark/tallymark/SlotArray", "get", "(I)I"⟩ : MethodName)) hown (mvT hZ (hw _ (List.mem_of_getElem? (i := 19) rfl))) (mvT hZ (hw _ (List.mem_of_getElem? (i := 20) rfl))) (notFace_of_selects (args := #[]) (mvT hZ (hw _ (List.mem_of_getElem? (i := 22) rfl)))) (mvT hZ (hw _ (List.mem_of_getElem? (i := 22) rfl))) (mvT hZ (hw _ (List.mem_of_getElem? (i := 21) rfl))) (by decide) (backOf (W := 0) (own_getn l Z a0 hw [] b88 jq a91 ln.toNatClampNeg jq.toNatClampNeg (fun _ => (.int (0 : Int32))) (0 : Int32) T91.heap n0 SZ91 hj.1 hj.2 rfl fn91 fa91) hZ (hw _ (List.mem_of_getElem? (i := 23) rfl)) (hw _ (List.mem_of_getElem? (i := 8) rfl)) (by decide) (by decide)) q93a q93c (g := (mkF m 67 #[.val (.int c0), .val (.int l0), .val (.int i0), .val (.int s0), .val (.int j0), .val (.int t0), .val (.int cp), .val (.int ln), .val (.int iq), .val (.int jq), .val (.int sv), .val (.int tv), .val (.ref b88), .unset] [(.int jq), (.ref b88)])) rfl (by rw [hml]; rfl) (Steps.refl _) (argsL := [(.int jq)]) (rest := []) (lenOf own_pd_3 rfl) rfl (by show 2 * 0 + _ ≤ _; exact Nat.le_of_eq rfl) (hb hby at_67) (fun _ _ => ⟨rfl, rfl, (by decide : 2 + 0 ≤ _), (by decide : 10 + 0 ≤ _)⟩)
      dsimp only [Pt.U, Pt.locs, Pt.cells, Pt.slots] at X93 l93 y93 z93 st93 hQ93
      subst l93 y93 z93
      obtain ⟨rfl, N93q, e93⟩ := hQ93
      have N93 := Fr.app N91 N93q
      refine own_by (fun t k => st93.trans k) ?_
      show own_Go p e below T93 (mkF m 70 #[.val (.int c0), .val (.int l0), .val (.int i0), .val (.int s0), .val (.int j0), .val (.int t0), .val (.int cp), .val (.int ln), .val (.int iq), .val (.int jq), .val (.int sv), .val (.int tv), .val (.ref b88), .unset] [(.int ((0 : Int32) - (1 : Int32)))]) _
      refine own_s_iconst X93.here hx (-1 : Int32) (hb hby at_70) rfl ?_
      refine own_s_icmpNo X93.here hx (hb hby at_71) (Jvm.Free.XT.ii_ne_f ((by decide))) ?_
      refine own_s_iconst X93.here hx (1 : Int32) (hb hby at_74) rfl ?_
      show own_Go p e below T93 (mkF m 75 #[.val (.int c0), .val (.int l0), .val (.int i0), .val (.int s0), .val (.int j0), .val (.int t0), .val (.int cp), .val (.int ln), .val (.int iq), .val (.int jq), .val (.int sv), .val (.int tv), .val (.ref b88), .unset] [(.int (1 : Int32))]) _
      refine own_s_goto X93.here hx 79 (hb hby at_75) (by decide) (by decide) ?_
      refine own_s_istore X93.here hx #[.val (.int c0), .val (.int l0), .val (.int i0), .val (.int s0), .val (.int j0), .val (.int t0), .val (.int cp), .val (.int ln), .val (.int iq), .val (.int jq), .val (.int sv), .val (.int tv), .val (.ref b88), .val (.int (1 : Int32))] (hb hby at_79) rfl ?_
      refine own_s_aload X93.here hx (hb hby at_81) rfl rfl ?_
      refine own_s_iload X93.here hx (hb hby at_83) rfl ?_
      refine own_s_iload X93.here hx (hb hby at_85) rfl ?_
      obtain ⟨cq94, kq94, q94a, q94b, q94c⟩ := isOf hZ e93 f92
      obtain ⟨_, _, ⟨T94, L94, k94, n94⟩, -, X94, ⟨Lc94, hQ94, l94, y94, z94⟩, st94⟩ := X93.virtualBack hx (y := (⟨"com/example/tallymark/tallymark/SlotArray", "set", "(II)V"⟩ : MethodName)) (z := (⟨"com/example/tallymark/tallymark/SlotArray", "set", "(II)V"⟩ : MethodName)) hown (mvT hZ (hw _ (List.mem_of_getElem? (i := 24) rfl))) (mvT hZ (hw _ (List.mem_of_getElem? (i := 25) rfl))) (notFace_of_selects (args := #[]) (mvT hZ (hw _ (List.mem_of_getElem? (i := 27) rfl)))) (mvT hZ (hw _ (List.mem_of_getElem? (i := 27) rfl))) (mvT hZ (hw _ (List.mem_of_getElem? (i := 26) rfl))) (by decide) (backOf (W := 0) (own_setn l Z a0 hw [] b88 iq sv a91 ln.toNatClampNeg iq.toNatClampNeg (fun _ => (.int (0 : Int32))) T91.heap n0 SZ91 hi.1 hi.2 hns fn91 fa91 ga91 na91) hZ (hw _ (List.mem_of_getElem? (i := 28) rfl)) (hw _ (List.mem_of_getElem? (i := 8) rfl)) (by decide) (by decide)) q94a q94c (g := (mkF m 87 #[.val (.int c0), .val (.int l0), .val (.int i0), .val (.int s0), .val (.int j0), .val (.int t0), .val (.int cp), .val (.int ln), .val (.int iq), .val (.int jq), .val (.int sv), .val (.int tv), .val (.ref b88), .val (.int (1 : Int32))] [(.int sv), (.int iq), (.ref b88)])) rfl (by rw [hml]; rfl) (Steps.refl _) (argsL := [(.int iq), (.int sv)]) (rest := []) (lenOf own_pd_1 rfl) rfl (by show 2 * 0 + _ ≤ _; exact Nat.le_of_eq rfl) (hb hby at_87) (fun _ _ => ⟨rfl, e93, (by decide : 2 + 0 ≤ _), (by decide : 10 + 0 ≤ _)⟩)
      dsimp only [Pt.U, Pt.locs, Pt.cells, Pt.slots] at X94 l94 y94 z94 st94 hQ94
      subst l94 y94 z94
      obtain ⟨rfl, N94q, K94, fa94⟩ := hQ94
      have N94 := Fr.app N93 N94q
      have f95 := f92.keep K94
      have f96 := fn91.keep K94 (ninS na91 nin0)
      have SZ94 : n0 ≤ T94.heap.size := Nat.le_trans SZ91 K94.1
      refine own_by (fun t k => st94.trans k) ?_
      show own_Go p e below T94 (mkF m 90 #[.val (.int c0), .val (.int l0), .val (.int i0), .val (.int s0), .val (.int j0), .val (.int t0), .val (.int cp), .val (.int ln), .val (.int iq), .val (.int jq), .val (.int sv), .val (.int tv), .val (.ref b88), .val (.int (1 : Int32))] []) _
      refine own_s_iload X94.here hx (hb hby at_90) rfl ?_
      refine own_s_ifNo X94.here hx (hb hby at_92) (Jvm.Free.XT.i0_eq_f ((by decide))) ?_
      refine own_s_aload X94.here hx (hb hby at_95) rfl rfl ?_
      refine own_s_iload X94.here hx (hb hby at_97) rfl ?_
      obtain ⟨cq97, kq97, q97a, q97b, q97c⟩ := isOf hZ rfl f95
      obtain ⟨_, _, ⟨T97, L97, k97, n97⟩, -, X97, ⟨Lc97, hQ97, l97, y97, z97⟩, st97⟩ := X94.virtualBack hx (y := (⟨"com/example/tallymark/tallymark/SlotArray", "get", "(I)I"⟩ : MethodName)) (z := (⟨"com/example/tallymark/tallymark/SlotArray", "get", "(I)I"⟩ : MethodName)) hown (mvT hZ (hw _ (List.mem_of_getElem? (i := 19) rfl))) (mvT hZ (hw _ (List.mem_of_getElem? (i := 20) rfl))) (notFace_of_selects (args := #[]) (mvT hZ (hw _ (List.mem_of_getElem? (i := 22) rfl)))) (mvT hZ (hw _ (List.mem_of_getElem? (i := 22) rfl))) (mvT hZ (hw _ (List.mem_of_getElem? (i := 21) rfl))) (by decide) (backOf (W := 0) (own_getn l Z a0 hw [] b88 iq a91 ln.toNatClampNeg iq.toNatClampNeg (own_upd (fun _ => (.int (0 : Int32))) iq.toNatClampNeg (.int (sv + (1 : Int32)))) (sv + (1 : Int32)) T94.heap n0 SZ94 hi.1 hi.2 (own_upd_hit rfl) f96 fa94) hZ (hw _ (List.mem_of_getElem? (i := 23) rfl)) (hw _ (List.mem_of_getElem? (i := 8) rfl)) (by decide) (by decide)) q97a q97c (g := (mkF m 99 #[.val (.int c0), .val (.int l0), .val (.int i0), .val (.int s0), .val (.int j0), .val (.int t0), .val (.int cp), .val (.int ln), .val (.int iq), .val (.int jq), .val (.int sv), .val (.int tv), .val (.ref b88), .val (.int (1 : Int32))] [(.int iq), (.ref b88)])) rfl (by rw [hml]; rfl) (Steps.refl _) (argsL := [(.int iq)]) (rest := []) (lenOf own_pd_3 rfl) rfl (by show 2 * 0 + _ ≤ _; exact Nat.le_of_eq rfl) (hb hby at_99) (fun _ _ => ⟨rfl, rfl, (by decide : 2 + 0 ≤ _), (by decide : 10 + 0 ≤ _)⟩)
      dsimp only [Pt.U, Pt.locs, Pt.cells, Pt.slots] at X97 l97 y97 z97 st97 hQ97
      subst l97 y97 z97
      obtain ⟨rfl, N97q, e97⟩ := hQ97
      have N97 := Fr.app N94 N97q
      refine own_by (fun t k => st97.trans k) ?_
      show own_Go p e below T97 (mkF m 102 #[.val (.int c0), .val (.int l0), .val (.int i0), .val (.int s0), .val (.int j0), .val (.int t0), .val (.int cp), .val (.int ln), .val (.int iq), .val (.int jq), .val (.int sv), .val (.int tv), .val (.ref b88), .val (.int (1 : Int32))] [(.int ((sv + (1 : Int32)) - (1 : Int32)))]) _
      refine own_s_iload X97.here hx (hb hby at_102) rfl ?_
      refine own_s_icmpNo X97.here hx (hb hby at_104) (Jvm.Free.XT.ii_ne_f ((own_as _))) ?_
      refine own_s_iconst X97.here hx (1 : Int32) (hb hby at_107) rfl ?_
      show own_Go p e below T97 (mkF m 108 #[.val (.int c0), .val (.int l0), .val (.int i0), .val (.int s0), .val (.int j0), .val (.int t0), .val (.int cp), .val (.int ln), .val (.int iq), .val (.int jq), .val (.int sv), .val (.int tv), .val (.ref b88), .val (.int (1 : Int32))] [(.int (1 : Int32))]) _
      refine own_s_goto X97.here hx 112 (hb hby at_108) (by decide) (by decide) ?_
      refine own_s_istore X97.here hx #[.val (.int c0), .val (.int l0), .val (.int i0), .val (.int s0), .val (.int j0), .val (.int t0), .val (.int cp), .val (.int ln), .val (.int iq), .val (.int jq), .val (.int sv), .val (.int tv), .val (.ref b88), .val (.int (1 : Int32))] (hb hby at_112) rfl ?_
      refine own_s_iload X97.here hx (hb hby at_114) rfl ?_
      refine own_s_ifNo X97.here hx (hb hby at_116) (Jvm.Free.XT.i0_eq_f ((by decide))) ?_
      refine own_s_aload X97.here hx (hb hby at_119) rfl rfl ?_
      refine own_s_iload X97.here hx (hb hby at_121) rfl ?_
      obtain ⟨cq98, kq98, q98a, q98b, q98c⟩ := isOf hZ e97 f95
      obtain ⟨_, _, ⟨T98, L98, k98, n98⟩, -, X98, ⟨Lc98, hQ98, l98, y98, z98⟩, st98⟩ := X97.virtualBack hx (y := (⟨"com/example/tallymark/tallymark/SlotArray", "get", "(I)I"⟩ : MethodName)) (z := (⟨"com/example/tallymark/tallymark/SlotArray", "get", "(I)I"⟩ : MethodName)) hown (mvT hZ (hw _ (List.mem_of_getElem? (i := 19) rfl))) (mvT hZ (hw _ (List.mem_of_getElem? (i := 20) rfl))) (notFace_of_selects (args := #[]) (mvT hZ (hw _ (List.mem_of_getElem? (i := 22) rfl)))) (mvT hZ (hw _ (List.mem_of_getElem? (i := 22) rfl))) (mvT hZ (hw _ (List.mem_of_getElem? (i := 21) rfl))) (by decide) (backOf (W := 0) (own_getn l Z a0 hw [] b88 jq a91 ln.toNatClampNeg jq.toNatClampNeg (own_upd (fun _ => (.int (0 : Int32))) iq.toNatClampNeg (.int (sv + (1 : Int32)))) (0 : Int32) T94.heap n0 SZ94 hj.1 hj.2 ((own_upd_miss hkk).trans rfl) f96 fa94) hZ (hw _ (List.mem_of_getElem? (i := 23) rfl)) (hw _ (List.mem_of_getElem? (i := 8) rfl)) (by decide) (by decide)) q98a q98c (g := (mkF m 123 #[.val (.int c0), .val (.int l0), .val (.int i0), .val (.int s0), .val (.int j0), .val (.int t0), .val (.int cp), .val (.int ln), .val (.int iq), .val (.int jq), .val (.int sv), .val (.int tv), .val (.ref b88), .val (.int (1 : Int32))] [(.int jq), (.ref b88)])) rfl (by rw [hml]; rfl) (Steps.refl _) (argsL := [(.int jq)]) (rest := []) (lenOf own_pd_3 rfl) rfl (by show 2 * 0 + _ ≤ _; exact Nat.le_of_eq rfl) (hb hby at_123) (fun _ _ => ⟨rfl, e97, (by decide : 2 + 0 ≤ _), (by decide : 10 + 0 ≤ _)⟩)
      dsimp only [Pt.U, Pt.locs, Pt.cells, Pt.slots] at X98 l98 y98 z98 st98 hQ98
      subst l98 y98 z98
      obtain ⟨rfl, N98q, e98⟩ := hQ98
      have N98 := Fr.app N97 N98q
      refine own_by (fun t k => st98.trans k) ?_
      show own_Go p e below T98 (mkF m 126 #[.val (.int c0), .val (.int l0), .val (.int i0), .val (.int s0), .val (.int j0), .val (.int t0), .val (.int cp), .val (.int ln), .val (.int iq), .val (.int jq), .val (.int sv), .val (.int tv), .val (.ref b88), .val (.int (1 : Int32))] [(.int ((0 : Int32) - (1 : Int32)))]) _
      refine own_s_iload X98.here hx (hb hby at_126) rfl ?_
      refine own_s_iload X98.here hx (hb hby at_128) rfl ?_
      show own_Go p e below T98 (mkF m 130 #[.val (.int c0), .val (.int l0), .val (.int i0), .val (.int s0), .val (.int j0), .val (.int t0), .val (.int cp), .val (.int ln), .val (.int iq), .val (.int jq), .val (.int sv), .val (.int tv), .val (.ref b88), .val (.int (1 : Int32))] [(.int iq), (.int jq), (.int ((0 : Int32) - (1 : Int32)))]) _
      refine own_s_icmpYes X98.here hx 138 (hb hby at_130) (Jvm.Free.XT.ii_ne_t hji) (by decide) (by decide) ?_
      refine own_s_iconst X98.here hx (-1 : Int32) (hb hby at_138) rfl ?_
      refine own_s_icmpNo X98.here hx (hb hby at_139) (Jvm.Free.XT.ii_ne_f ((by decide))) ?_
      refine own_s_iconst X98.here hx (1 : Int32) (hb hby at_142) rfl ?_
      show own_Go p e below T98 (mkF m 143 #[.val (.int c0), .val (.int l0), .val (.int i0), .val (.int s0), .val (.int j0), .val (.int t0), .val (.int cp), .val (.int ln), .val (.int iq), .val (.int jq), .val (.int sv), .val (.int tv), .val (.ref b88), .val (.int (1 : Int32))] [(.int (1 : Int32))]) _
      refine own_s_goto X98.here hx 147 (hb hby at_143) (by decide) (by decide) ?_
      refine own_s_istore X98.here hx #[.val (.int c0), .val (.int l0), .val (.int i0), .val (.int s0), .val (.int j0), .val (.int t0), .val (.int cp), .val (.int ln), .val (.int iq), .val (.int jq), .val (.int sv), .val (.int tv), .val (.ref b88), .val (.int (1 : Int32))] (hb hby at_147) rfl ?_
      refine own_s_aload X98.here hx (hb hby at_149) rfl rfl ?_
      refine own_s_iload X98.here hx (hb hby at_151) rfl ?_
      refine own_s_iload X98.here hx (hb hby at_153) rfl ?_
      obtain ⟨cq99, kq99, q99a, q99b, q99c⟩ := isOf hZ e98 f95
      obtain ⟨_, _, ⟨T99, L99, k99, n99⟩, -, X99, ⟨Lc99, hQ99, l99, y99, z99⟩, st99⟩ := X98.virtualBack hx (y := (⟨"com/example/tallymark/tallymark/SlotArray", "set", "(II)V"⟩ : MethodName)) (z := (⟨"com/example/tallymark/tallymark/SlotArray", "set", "(II)V"⟩ : MethodName)) hown (mvT hZ (hw _ (List.mem_of_getElem? (i := 24) rfl))) (mvT hZ (hw _ (List.mem_of_getElem? (i := 25) rfl))) (notFace_of_selects (args := #[]) (mvT hZ (hw _ (List.mem_of_getElem? (i := 27) rfl)))) (mvT hZ (hw _ (List.mem_of_getElem? (i := 27) rfl))) (mvT hZ (hw _ (List.mem_of_getElem? (i := 26) rfl))) (by decide) (backOf (W := 0) (own_setn l Z a0 hw [] b88 jq tv a91 ln.toNatClampNeg jq.toNatClampNeg (own_upd (fun _ => (.int (0 : Int32))) iq.toNatClampNeg (.int (sv + (1 : Int32)))) T94.heap n0 SZ94 hj.1 hj.2 hnt f96 fa94 ga91 na91) hZ (hw _ (List.mem_of_getElem? (i := 28) rfl)) (hw _ (List.mem_of_getElem? (i := 8) rfl)) (by decide) (by decide)) q99a q99c (g := (mkF m 155 #[.val (.int c0), .val (.int l0), .val (.int i0), .val (.int s0), .val (.int j0), .val (.int t0), .val (.int cp), .val (.int ln), .val (.int iq), .val (.int jq), .val (.int sv), .val (.int tv), .val (.ref b88), .val (.int (1 : Int32))] [(.int tv), (.int jq), (.ref b88)])) rfl (by rw [hml]; rfl) (Steps.refl _) (argsL := [(.int jq), (.int tv)]) (rest := []) (lenOf own_pd_1 rfl) rfl (by show 2 * 0 + _ ≤ _; exact Nat.le_of_eq rfl) (hb hby at_155) (fun _ _ => ⟨rfl, e98, (by decide : 2 + 0 ≤ _), (by decide : 10 + 0 ≤ _)⟩)
      dsimp only [Pt.U, Pt.locs, Pt.cells, Pt.slots] at X99 l99 y99 z99 st99 hQ99
      subst l99 y99 z99
      obtain ⟨rfl, N99q, K99, fa99⟩ := hQ99
      have N99 := Fr.app N98 N99q
      have f100 := f95.keep K99
      have f101 := f96.keep K99 (ninS na91 nin0)
      have SZ99 : n0 ≤ T99.heap.size := Nat.le_trans SZ94 K99.1
      refine own_by (fun t k => st99.trans k) ?_
      show own_Go p e below T99 (mkF m 158 #[.val (.int c0), .val (.int l0), .val (.int i0), .val (.int s0), .val (.int j0), .val (.int t0), .val (.int cp), .val (.int ln), .val (.int iq), .val (.int jq), .val (.int sv), .val (.int tv), .val (.ref b88), .val (.int (1 : Int32))] []) _
      refine own_s_iload X99.here hx (hb hby at_158) rfl ?_
      refine own_s_ifNo X99.here hx (hb hby at_160) (Jvm.Free.XT.i0_eq_f ((by decide))) ?_
      refine own_s_aload X99.here hx (hb hby at_163) rfl rfl ?_
      refine own_s_iload X99.here hx (hb hby at_165) rfl ?_
      obtain ⟨cq102, kq102, q102a, q102b, q102c⟩ := isOf hZ rfl f100
      obtain ⟨_, _, ⟨T102, L102, k102, n102⟩, -, X102, ⟨Lc102, hQ102, l102, y102, z102⟩, st102⟩ := X99.virtualBack hx (y := (⟨"com/example/tallymark/tallymark/SlotArray", "get", "(I)I"⟩ : MethodName)) (z := (⟨"com/example/tallymark/tallymark/SlotArray", "get", "(I)I"⟩ : MethodName)) hown (mvT hZ (hw _ (List.mem_of_getElem? (i := 19) rfl))) (mvT hZ (hw _ (List.mem_of_getElem? (i := 20) rfl))) (notFace_of_selects (args := #[]) (mvT hZ (hw _ (List.mem_of_getElem? (i := 22) rfl)))) (mvT hZ (hw _ (List.mem_of_getElem? (i := 22) rfl))) (mvT hZ (hw _ (List.mem_of_getElem? (i := 21) rfl))) (by decide) (backOf (W := 0) (own_getn l Z a0 hw [] b88 iq a91 ln.toNatClampNeg iq.toNatClampNeg (own_upd (own_upd (fun _ => (.int (0 : Int32))) iq.toNatClampNeg (.int (sv + (1 : Int32)))) jq.toNatClampNeg (.int (tv + (1 : Int32)))) (sv + (1 : Int32)) T99.heap n0 SZ99 hi.1 hi.2 ((own_upd_miss hkk').trans (own_upd_hit rfl)) f101 fa99) hZ (hw _ (List.mem_of_getElem? (i := 23) rfl)) (hw _ (List.mem_of_getElem? (i := 8) rfl)) (by decide) (by decide)) q102a q102c (g := (mkF m 167 #[.val (.int c0), .val (.int l0), .val (.int i0), .val (.int s0), .val (.int j0), .val (.int t0), .val (.int cp), .val (.int ln), .val (.int iq), .val (.int jq), .val (.int sv), .val (.int tv), .val (.ref b88), .val (.int (1 : Int32))] [(.int iq), (.ref b88)])) rfl (by rw [hml]; rfl) (Steps.refl _) (argsL := [(.int iq)]) (rest := []) (lenOf own_pd_3 rfl) rfl (by show 2 * 0 + _ ≤ _; exact Nat.le_of_eq rfl) (hb hby at_167) (fun _ _ => ⟨rfl, rfl, (by decide : 2 + 0 ≤ _), (by decide : 10 + 0 ≤ _)⟩)
      dsimp only [Pt.U, Pt.locs, Pt.cells, Pt.slots] at X102 l102 y102 z102 st102 hQ102
      subst l102 y102 z102
      obtain ⟨rfl, N102q, e102⟩ := hQ102
      have N102 := Fr.app N99 N102q
      refine own_by (fun t k => st102.trans k) ?_
      show own_Go p e below T102 (mkF m 170 #[.val (.int c0), .val (.int l0), .val (.int i0), .val (.int s0), .val (.int j0), .val (.int t0), .val (.int cp), .val (.int ln), .val (.int iq), .val (.int jq), .val (.int sv), .val (.int tv), .val (.ref b88), .val (.int (1 : Int32))] [(.int ((sv + (1 : Int32)) - (1 : Int32)))]) _
      refine own_s_iload X102.here hx (hb hby at_170) rfl ?_
      refine own_s_iload X102.here hx (hb hby at_172) rfl ?_
      show own_Go p e below T102 (mkF m 174 #[.val (.int c0), .val (.int l0), .val (.int i0), .val (.int s0), .val (.int j0), .val (.int t0), .val (.int cp), .val (.int ln), .val (.int iq), .val (.int jq), .val (.int sv), .val (.int tv), .val (.ref b88), .val (.int (1 : Int32))] [(.int iq), (.int jq), (.int ((sv + (1 : Int32)) - (1 : Int32)))]) _
      refine own_s_icmpYes X102.here hx 182 (hb hby at_174) (Jvm.Free.XT.ii_ne_t hji) (by decide) (by decide) ?_
      refine own_s_iload X102.here hx (hb hby at_182) rfl ?_
      refine own_s_icmpNo X102.here hx (hb hby at_184) (Jvm.Free.XT.ii_ne_f ((own_as _))) ?_
      refine own_s_iconst X102.here hx (1 : Int32) (hb hby at_187) rfl ?_
      show own_Go p e below T102 (mkF m 188 #[.val (.int c0), .val (.int l0), .val (.int i0), .val (.int s0), .val (.int j0), .val (.int t0), .val (.int cp), .val (.int ln), .val (.int iq), .val (.int jq), .val (.int sv), .val (.int tv), .val (.ref b88), .val (.int (1 : Int32))] [(.int (1 : Int32))]) _
      refine own_s_goto X102.here hx 192 (hb hby at_188) (by decide) (by decide) ?_
      refine own_s_istore X102.here hx #[.val (.int c0), .val (.int l0), .val (.int i0), .val (.int s0), .val (.int j0), .val (.int t0), .val (.int cp), .val (.int ln), .val (.int iq), .val (.int jq), .val (.int sv), .val (.int tv), .val (.ref b88), .val (.int (1 : Int32))] (hb hby at_192) rfl ?_
      refine own_s_iload X102.here hx (hb hby at_194) rfl ?_
      refine own_s_ifNo X102.here hx (hb hby at_196) (Jvm.Free.XT.i0_eq_f ((by decide))) ?_
      refine own_s_aload X102.here hx (hb hby at_199) rfl rfl ?_
      refine own_s_iload X102.here hx (hb hby at_201) rfl ?_
      obtain ⟨cq103, kq103, q103a, q103b, q103c⟩ := isOf hZ e102 f100
      obtain ⟨_, _, ⟨T103, L103, k103, n103⟩, -, X103, ⟨Lc103, hQ103, l103, y103, z103⟩, st103⟩ := X102.virtualBack hx (y := (⟨"com/example/tallymark/tallymark/SlotArray", "get", "(I)I"⟩ : MethodName)) (z := (⟨"com/example/tallymark/tallymark/SlotArray", "get", "(I)I"⟩ : MethodName)) hown (mvT hZ (hw _ (List.mem_of_getElem? (i := 19) rfl))) (mvT hZ (hw _ (List.mem_of_getElem? (i := 20) rfl))) (notFace_of_selects (args := #[]) (mvT hZ (hw _ (List.mem_of_getElem? (i := 22) rfl)))) (mvT hZ (hw _ (List.mem_of_getElem? (i := 22) rfl))) (mvT hZ (hw _ (List.mem_of_getElem? (i := 21) rfl))) (by decide) (backOf (W := 0) (own_getn l Z a0 hw [] b88 jq a91 ln.toNatClampNeg jq.toNatClampNeg (own_upd (own_upd (fun _ => (.int (0 : Int32))) iq.toNatClampNeg (.int (sv + (1 : Int32)))) jq.toNatClampNeg (.int (tv + (1 : Int32)))) (tv + (1 : Int32)) T99.heap n0 SZ99 hj.1 hj.2 (own_upd_hit rfl) f101 fa99) hZ (hw _ (List.mem_of_getElem? (i := 23) rfl)) (hw _ (List.mem_of_getElem? (i := 8) rfl)) (by decide) (by decide)) q103a q103c (g := (mkF m 203 #[.val (.int c0), .val (.int l0), .val (.int i0), .val (.int s0), .val (.int j0), .val (.int t0), .val (.int cp), .val (.int ln), .val (.int iq), .val (.int jq), .val (.int sv), .val (.int tv), .val (.ref b88), .val (.int (1 : Int32))] [(.int jq), (.ref b88)])) rfl (by rw [hml]; rfl) (Steps.refl _) (argsL := [(.int jq)]) (rest := []) (lenOf own_pd_3 rfl) rfl (by show 2 * 0 + _ ≤ _; exact Nat.le_of_eq rfl) (hb hby at_203) (fun _ _ => ⟨rfl, e102, (by decide : 2 + 0 ≤ _), (by decide : 10 + 0 ≤ _)⟩)
      dsimp only [Pt.U, Pt.locs, Pt.cells, Pt.slots] at X103 l103 y103 z103 st103 hQ103
      subst l103 y103 z103
      obtain ⟨rfl, N103q, e103⟩ := hQ103
      have N103 := Fr.app N102 N103q
      refine own_by (fun t k => st103.trans k) ?_
      show own_Go p e below T103 (mkF m 206 #[.val (.int c0), .val (.int l0), .val (.int i0), .val (.int s0), .val (.int j0), .val (.int t0), .val (.int cp), .val (.int ln), .val (.int iq), .val (.int jq), .val (.int sv), .val (.int tv), .val (.ref b88), .val (.int (1 : Int32))] [(.int ((tv + (1 : Int32)) - (1 : Int32)))]) _
      refine own_s_iload X103.here hx (hb hby at_206) rfl ?_
      refine own_s_icmpNo X103.here hx (hb hby at_208) (Jvm.Free.XT.ii_ne_f ((own_as _))) ?_
      refine own_s_iconst X103.here hx (1 : Int32) (hb hby at_211) rfl ?_
      show own_Go p e below T103 (mkF m 212 #[.val (.int c0), .val (.int l0), .val (.int i0), .val (.int s0), .val (.int j0), .val (.int t0), .val (.int cp), .val (.int ln), .val (.int iq), .val (.int jq), .val (.int sv), .val (.int tv), .val (.ref b88), .val (.int (1 : Int32))] [(.int (1 : Int32))]) _
      refine own_s_goto X103.here hx 216 (hb hby at_212) (by decide) (by decide) ?_
      refine own_s_istore X103.here hx #[.val (.int c0), .val (.int l0), .val (.int i0), .val (.int s0), .val (.int j0), .val (.int t0), .val (.int cp), .val (.int ln), .val (.int iq), .val (.int jq), .val (.int sv), .val (.int tv), .val (.ref b88), .val (.int (1 : Int32))] (hb hby at_216) rfl ?_
      refine own_s_iload X103.here hx (hb hby at_218) rfl ?_
      refine own_retZ X103 hx hret hlk (hb hby at_220) rfl (by decide) (by decide) ?_
      exact ⟨rfl, N103⟩
set_option maxRecDepth 65536 in
set_option maxHeartbeats 40000000 in
theorem own_comes {Post : Tables → Env → Array Value → State → Outcome → State → Prop} (hpost : ∀ tb e args s v u, (limb_1_1.after args s (.returned v) u = true ∧ limb_1_2.after args s (.returned v) u = true ∧ True) → FrameEnd s (.returned v) u (Jvm.fieldLocs frame_1_writes args s ++ Jvm.arrayLocs frame_1_arrays args s ++ Jvm.staticLocs frame_1_statics s) 16 128 → Post tb e args s (.returned v) u) :
    ArmFor flags0 classFile x code maxLocals ret World_1 tables_1 room_1 Calls_1 rest_1 Pre_1 Post := by
  intro l hfl _ _ p e ha hc hk s m args below hf hA hF happ hP
  obtain ⟨hcalls, hrest, hpre⟩ := hP
  obtain ⟨-, -, -, hnamed, -, -, -, hat⟩ := (Spec.applies_iff hf).mp happ
  obtain ⟨hg, hn⟩ := and_e (Cond.before_iff.mp (show (Jvm.Cond.and given_1 narrow_1).before args s = true from hpre))
  obtain ⟨g1, g2⟩ := and_e hg
  obtain ⟨g3, g4⟩ := and_e g2
  obtain ⟨g5, g6⟩ := and_e g4
  obtain ⟨g7, g8⟩ := and_e g6
  obtain ⟨g9, g10⟩ := and_e g8
  obtain ⟨g11, g12⟩ := and_e g10
  obtain ⟨w0, w1, w2, w3, w4, w5, rfl⟩ : ∃ w0 w1 w2 w3 w4 w5 : Value, args = #[w0, w1, w2, w3, w4, w5] := by
    have hs : args.size = 6 := by simpa [Cond.value, given_1] using g1
    obtain ⟨L⟩ := args
    match L, hs with
    | [w0, w1, w2, w3, w4, w5], _ => exact ⟨w0, w1, w2, w3, w4, w5, rfl⟩
  have hw := fun d (hd : d ∈ tables_1) => atoms_spec (ws := Jvm.Cond.code x code maxLocals ret :: tables_1) hat d (List.mem_cons_of_mem _ hd)
  obtain ⟨i0, ei0⟩ := is_v g3
  obtain rfl : w0 = (.int i0) := Option.some.inj ei0
  obtain ⟨i1, ei1⟩ := is_v g5
  obtain rfl : w1 = (.int i1) := Option.some.inj ei1
  obtain ⟨i2, ei2⟩ := is_v g7
  obtain rfl : w2 = (.int i2) := Option.some.inj ei2
  obtain ⟨i3, ei3⟩ := is_v g9
  obtain rfl : w3 = (.int i3) := Option.some.inj ei3
  obtain ⟨i4, ei4⟩ := is_v g11
  obtain rfl : w4 = (.int i4) := Option.some.inj ei4
  obtain ⟨i5, ei5⟩ := is_v g12
  obtain rfl : w5 = (.int i5) := Option.some.inj ei5
  obtain ⟨n, o, h1, h2, h3, _, L, rfl, ⟨rfl, N⟩, hq⟩ := own_r0 l s _ hw tables_1 i0 i1 i2 i3 i4 i5 s.heap s.heap.size (Nat.le_refl _) p e ha hc hk s m _ below hf ((Spec.applies_iff_loose hf).mp happ).1 ⟨rfl, State.Warmed39.refl s, rfl⟩ trivial
  refine ⟨n, _, h1, h2, h3, hpost _ _ _ _ _ _ ⟨Cond.after_iff.mpr rfl, Cond.after_iff.mpr (eq_i res_at (Term.int_eval (1)) rfl), trivial⟩ ⟨hq.1, hq.2.1, (hq.2.2.sift fun y hy => Or.inr (N y hy)).mono (by decide) (by decide)⟩⟩
theorem main_1_1 : Claimed_1_1 := own_comes fun _ _ _ _ _ _ h hF => ⟨h.1, hF⟩
theorem main_1_2 : Claimed_1_2 := own_comes fun _ _ _ _ _ _ h hF => ⟨h.2.1, hF⟩
end Jvm.Pilot.@@N@@
namespace Jvm.Pilot.@@N@@
open Jvm Jvm.ClassFile Sem Op Lib Jvm.Free Jvm.Stand Jvm.Pilot.@@N@@.Jvm.D
/-! MADE BY PROGRAM (witnessworld.py) out of the Statement's table words and the real class files: 11 classes; the members and pool entries that the words name. The judged class is class 1, her method 1. -/
namespace start1
open Jvm.ClassFile
def u (s : String) : CpInfo := .utf8 (stringToUtf16 s)
/-- a pool by its gaps: so many unusable entries, then the entry; so many at the end -/
def gap : Nat → List CpInfo → List CpInfo
  | 0, r => r
  | n + 1, r => .unusable :: gap n r
def poolList (es : List (Nat × CpInfo)) (last : Nat) : List CpInfo := es.foldr (fun e r => gap e.1 (e.2 :: r)) (gap last [])
def pool (es : List (Nat × CpInfo)) (last : Nat) : Array CpInfo := ⟨poolList es last⟩
def fileOf (pool : Array CpInfo) (this : Nat) (attrs : Array Attribute := #[]) (ms : Array MethodInfo := #[]) (fl : Nat := 33) (sup : Nat := 0) (ifs : Array Nat := #[]) (fds : Array FieldInfo := #[]) : ClassFile where
  minorVersion := 0
  majorVersion := 65
  constantPool := pool
  accessFlags := fl
  thisClass := this
  superClass := sup
  interfaces := ifs
  fields := fds
  methods := ms
  attributes := attrs
def plain (name : String) (sup : Option ClassId) : Class where
  name := name
  kind := .ordinary
  loader := none
  accessFlags := 33
  super := sup
  interfaces := #[]
  cf := none
  fields := #[]
  methods := #[]
  instanceTypes := #[]
  staticTypes := #[]
  resolved := #[]
  callSites := []
  init := .initialized
  statics := none
  mirror := none

def pool0 : Array CpInfo := pool [(5, u "<init>"), (0, u "()V"), (1, .class_ 10), (1, u "java/lang/Object")] 113

def k0c0 : Code := { maxStack := 0, maxLocals := 1, code := object_method_1_code, exceptionTable := #[], attributes := #[] }
def k0m0 : Method := { name := "<init>", desc := "()V", sig := { parameters := [], returnType := none }, accessFlags := 1, code := some k0c0 }
/-- java/lang/Object -/
def k0 : Class := { plain "java/lang/Object" none with
  accessFlags := 33
  interfaces := #[]
  cf := some (fileOf pool0 8 #[] #[{ accessFlags := 1, nameIndex := 5, descriptorIndex := 6, attributes := #[] }] 33 0 #[] #[])
  fields := #[]
  methods := #[k0m0]
  instanceTypes := #[]
  staticTypes := #[]
  resolved := Array.replicate 124 none
  statics := none }

def pool1 : Array CpInfo := pool [(2, .class_ 4), (1, u "java/lang/Object"), (0, u "<init>"), (0, u "()V"), (0, .integer 2147483647), (0, .methodref 9 10), (0, .class_ 11), (0, .nameAndType 12 13), (0, u "com/example/tallymark/tallymark/SlotArrayGetPinLaw"), (0, u "pick"), (0, u "(II)I"), (0, .class_ 15), (0, u "com/example/tallymark/tallymark/SlotArray"), (0, .methodref 14 17), (0, .nameAndType 5 18), (0, u "(II)V"), (0, .methodref 14 20), (0, .nameAndType 21 22), (0, u "get"), (0, u "(I)I"), (0, .methodref 14 24), (0, .nameAndType 25 18), (0, u "set"), (0, .long 2147483647), (3, u "law"), (0, u "(IIIIII)Z")] 3

def k1m0 : Method := { name := "<init>", desc := "()V", sig := { parameters := [], returnType := none }, accessFlags := 1, code := none }
def k1c1 : Code := { maxStack := 4, maxLocals := 14, code := code, exceptionTable := #[], attributes := #[] }
def k1m1 : Method := { name := "law", desc := "(IIIIII)Z", sig := { parameters := [.int, .int, .int, .int, .int, .int], returnType := some .boolean }, accessFlags := 9, code := some k1c1 }
def k1c2 : Code := { maxStack := 4, maxLocals := 4, code := method_3_code, exceptionTable := #[], attributes := #[] }
def k1m2 : Method := { name := "pick", desc := "(II)I", sig := { parameters := [.int, .int], returnType := some .int }, accessFlags := 10, code := some k1c2 }
/-- com/example/tallymark/tallymark/SlotArrayGetPinLaw -/
def k1 : Class := { plain "com/example/tallymark/tallymark/SlotArrayGetPinLaw" (some 0) with
  accessFlags := 49
  interfaces := #[]
  cf := some (fileOf pool1 9 #[] #[{ accessFlags := 1, nameIndex := 5, descriptorIndex := 6, attributes := #[] }, { accessFlags := 9, nameIndex := 30, descriptorIndex := 31, attributes := #[] }, { accessFlags := 10, nameIndex := 12, descriptorIndex := 13, attributes := #[] }] 49 2 #[] #[])
  fields := #[]
  methods := #[k1m0, k1m1, k1m2]
  instanceTypes := #[]
  staticTypes := #[]
  resolved := Array.replicate 35 none
  statics := none }

def pool2 : Array CpInfo := pool [(3, .methodref 4 5), (0, .class_ 6), (0, .nameAndType 7 8), (0, u "java/lang/Object"), (0, u "<init>"), (0, u "()V"), (0, .class_ 10), (0, u "com/example/tallymark/tallymark/SlotArray"), (0, .integer 65535), (0, .fieldref 9 13), (0, .nameAndType 14 15), (0, u "narrow"), (0, u "[C"), (0, .fieldref 9 17), (0, .nameAndType 18 19), (0, u "wide"), (0, u "[I"), (27, u "NARROW_CAPACITY"), (0, u "I"), (1, u "(II)V"), (3, u "get"), (0, u "(I)I"), (0, u "set")] 6

def k2c0 : Code := { maxStack := 2, maxLocals := 3, code := prog_20_method_1_code, exceptionTable := #[], attributes := #[] }
def k2m0 : Method := { name := "<init>", desc := "(II)V", sig := { parameters := [.int, .int], returnType := none }, accessFlags := 0, code := some k2c0 }
def k2c1 : Code := { maxStack := 2, maxLocals := 2, code := prog_20_method_3_code, exceptionTable := #[], attributes := #[] }
def k2m1 : Method := { name := "get", desc := "(I)I", sig := { parameters := [.int], returnType := some .int }, accessFlags := 0, code := some k2c1 }
def k2c2 : Code := { maxStack := 4, maxLocals := 3, code := prog_20_method_4_code, exceptionTable := #[], attributes := #[] }
def k2m2 : Method := { name := "set", desc := "(II)V", sig := { parameters := [.int, .int], returnType := none }, accessFlags := 0, code := some k2c2 }
/-- com/example/tallymark/tallymark/SlotArray -/
def k2 : Class := { plain "com/example/tallymark/tallymark/SlotArray" (some 0) with
  accessFlags := 48
  interfaces := #[]
  cf := some (fileOf pool2 9 #[] #[{ accessFlags := 0, nameIndex := 7, descriptorIndex := 50, attributes := #[] }, { accessFlags := 0, nameIndex := 54, descriptorIndex := 55, attributes := #[] }, { accessFlags := 0, nameIndex := 56, descriptorIndex := 50, attributes := #[] }] 48 4 #[] #[{ accessFlags := 24, nameIndex := 47, descriptorIndex := 48, attributes := #[] }, { accessFlags := 2, nameIndex := 14, descriptorIndex := 15, attributes := #[] }, { accessFlags := 2, nameIndex := 18, descriptorIndex := 19, attributes := #[] }])
  fields := #[{ name := "NARROW_CAPACITY", type := .int, accessFlags := 24, slot := 0, constantValue := 0 }, { name := "narrow", type := (.array .char), accessFlags := 2, slot := 0, constantValue := 0 }, { name := "wide", type := (.array .int), accessFlags := 2, slot := 1, constantValue := 0 }]
  methods := #[k2m0, k2m1, k2m2]
  instanceTypes := #[(.array .char), (.array .int)]
  staticTypes := #[.int]
  resolved := Array.replicate 63 none
  statics := none }

def pool3 : Array CpInfo := pool [(1, u "java/lang/Cloneable"), (0, .class_ 1), (0, u "java/lang/Object"), (0, .class_ 3)] 3

/-- java/lang/Cloneable -/
def k3 : Class := { plain "java/lang/Cloneable" (some 0) with
  accessFlags := 1537
  interfaces := #[]
  cf := some (fileOf pool3 2 #[] #[] 1537 4 #[] #[])
  fields := #[]
  methods := #[]
  instanceTypes := #[]
  staticTypes := #[]
  resolved := Array.replicate 8 none
  statics := none }

def pool4 : Array CpInfo := pool [(1, u "java/io/Serializable"), (0, .class_ 1), (0, u "java/lang/Object"), (0, .class_ 3)] 3

/-- java/io/Serializable -/
def k4 : Class := { plain "java/io/Serializable" (some 0) with
  accessFlags := 1537
  interfaces := #[]
  cf := some (fileOf pool4 2 #[] #[] 1537 4 #[] #[])
  fields := #[]
  methods := #[]
  instanceTypes := #[]
  staticTypes := #[]
  resolved := Array.replicate 8 none
  statics := none }

/-- the primitive byte -/
def k5 : Class := { plain "byte" none with kind := .primitive 'B', accessFlags := 0x411 }
/-- [B -/
def k6 : Class := { plain "[B" (some 0) with kind := .array 5 .byte, interfaces := #[3, 4], accessFlags := 1041 }

/-- the primitive char -/
def k7 : Class := { plain "char" none with kind := .primitive 'C', accessFlags := 0x411 }
/-- [C -/
def k8 : Class := { plain "[C" (some 0) with kind := .array 7 .char, interfaces := #[3, 4], accessFlags := 1041 }

/-- the primitive int -/
def k9 : Class := { plain "int" none with kind := .primitive 'I', accessFlags := 0x411 }
/-- [I -/
def k10 : Class := { plain "[I" (some 0) with kind := .array 9 .int, interfaces := #[3, 4], accessFlags := 1041 }

def heap : Heap := #[]
def classes : Array Class := #[k0, k1, k2, k3, k4, k5, k6, k7, k8, k9, k10]
def interned : List (Array UInt16 × Addr) := []
def slotsUsed : Nat := 0
def theMethod : MethodId := ⟨1, 1⟩
def args0 : Array Value := #[.int 5, .int 5, .int 5, .int 5, .int 5, .int 5]
def aboutOver (below : List Frame) : State where
  vm := { classes := classes, interned := interned.toArray }
  heap := heap
  slotsUsed := slotsUsed
  threads := #[{ frames := .invoking theMethod args0 :: below }]
def below0 : List Frame := [.native { method := ⟨0, 0⟩, args := #[] }]
def about1 : State := aboutOver below0
def p0 : Program := .bare "" "" ""
def e0 : Env := launch0.env 0 0 0
theorem w_frames : about1.frames = Frame.invoking theMethod args0 :: below0 := rfl
set_option maxRecDepth 65536 in
theorem w_args : argsFit about1.vm theMethod args0 = true := by decide +kernel
set_option maxRecDepth 65536 in
theorem w_heap : heapFits about1 = true := by decide +kernel
set_option maxRecDepth 65536 in
theorem w_runnable : about1.curStatus? = some .runnable := by decide +kernel
set_option maxRecDepth 65536 in
theorem w_alone : about1.alone = true := by decide +kernel
set_option maxRecDepth 65536 in
theorem w_named : about1.methodNamed? x = some theMethod := by decide +kernel
set_option maxRecDepth 65536 in
theorem w_hears : about1.hears theMethod below0 = true := by decide +kernel
set_option maxRecDepth 65536 in
theorem w_ripe : about1.ripe theMethod args0 below0 = true := by decide +kernel
theorem w_running : about1.status = .running := rfl
set_option maxRecDepth 65536 in
theorem w_room : about1.hasRoom e0.platform room_1 = true :=
  launch0.hasRoom_least _ room_1 (by decide +kernel) (by decide +kernel) (by decide +kernel) (by decide +kernel) (by decide +kernel) (by decide +kernel)
theorem allAtoms_all (ts : List Jvm.Cond) (a : Array Jvm.Value) (st : Jvm.State) : (allAtoms ts).before a st = ts.all (fun c => c.before a st) := by
  induction ts with
  | nil => rfl
  | cons c t ih =>
    show (Jvm.Cond.and c (allAtoms t)).before a st = _
    rw [Jvm.Cond.before_and, ih, List.all_cons]
def words1 : List Jvm.Cond := Jvm.Cond.code x code maxLocals ret :: tables_1
/-- a 'code' word, met by the world's own term for the bytes: nothing is compared byte by byte -/
theorem code_word {y : MethodName} {bytes : ByteArray} {mx : Nat} {rt : Option FieldType} {a : Array Value} {s : State} {m : MethodId} {meth : Method} {c : Code} (h1 : s.methodNamed? y = some m) (h2 : s.vm.method? m = some meth) (h3 : meth.code = some c) (h4 : c.code = bytes)
    (h5 : (c.maxLocals == mx && c.exceptionTable.isEmpty && decide (c.maxStack ≤ mostOperands) && decide (meth.sig.returnType = rt) && !meth.locks && decide (parseMethodDescriptor y.desc = some meth.sig)) = true) : (Jvm.Cond.code y bytes mx rt).before a s = true := by
  simp only [Bool.and_eq_true, beq_iff_eq, Bool.not_eq_true', decide_eq_true_eq] at h5
  obtain ⟨⟨⟨⟨⟨g1, g2⟩, g3⟩, g4⟩, g5⟩, g6⟩ := h5
  simp [Cond.before, Cond.holds, Cond.value, h1, h2, h3, h4, g1, g2, g3, g4, g5, g6]
def isCode : Jvm.Cond → Bool
  | .code _ _ _ _ => true
  | _ => false
theorem all_split {L : List Jvm.Cond} {P : Jvm.Cond → Bool} (h1 : L.all (fun c => isCode c || P c) = true) (h2 : ∀ c ∈ L.filter isCode, P c = true) : L.all P = true := by
  refine List.all_eq_true.mpr fun c hc => ?_
  have h := List.all_eq_true.mp h1 c hc
  rcases Bool.eq_false_or_eq_true (isCode c) with hi | hi
  · exact h2 c (List.mem_filter.mpr ⟨hc, hi⟩)
  · simpa [hi] using h
set_option maxRecDepth 65536 in
theorem w_c0 : (Jvm.Cond.code x code maxLocals ret).before args0 about1 = true := code_word (m := ⟨1, 1⟩) (meth := k1m1) (c := k1c1) (by decide +kernel) rfl rfl rfl (by decide +kernel)
set_option maxRecDepth 65536 in
theorem w_c1 : (Jvm.Cond.code ({ cls := "com/example/tallymark/tallymark/SlotArrayGetPinLaw", name := "pick", desc := "(II)I" } : Jvm.MethodName) method_3_code (4 : Nat) (Option.some Jvm.ClassFile.FieldType.int)).before args0 about1 = true := code_word (m := ⟨1, 2⟩) (meth := k1m2) (c := k1c2) (by decide +kernel) rfl rfl rfl (by decide +kernel)
set_option maxRecDepth 65536 in
theorem w_c2 : (Jvm.Cond.code ({ cls := "com/example/tallymark/tallymark/SlotArray", name := "<init>", desc := "(II)V" } : Jvm.MethodName) prog_20_method_1_code (3 : Nat) (Option.none : Option Jvm.ClassFile.FieldType)).before args0 about1 = true := code_word (m := ⟨2, 0⟩) (meth := k2m0) (c := k2c0) (by decide +kernel) rfl rfl rfl (by decide +kernel)
set_option maxRecDepth 65536 in
theorem w_c3 : (Jvm.Cond.code ({ cls := "java/lang/Object", name := "<init>", desc := "()V" } : Jvm.MethodName) object_method_1_code (1 : Nat) (Option.none : Option Jvm.ClassFile.FieldType)).before args0 about1 = true := code_word (m := ⟨0, 0⟩) (meth := k0m0) (c := k0c0) (by decide +kernel) rfl rfl rfl (by decide +kernel)
set_option maxRecDepth 65536 in
theorem w_c4 : (Jvm.Cond.code ({ cls := "com/example/tallymark/tallymark/SlotArray", name := "get", desc := "(I)I" } : Jvm.MethodName) prog_20_method_3_code (2 : Nat) (Option.some Jvm.ClassFile.FieldType.int)).before args0 about1 = true := code_word (m := ⟨2, 1⟩) (meth := k2m1) (c := k2c1) (by decide +kernel) rfl rfl rfl (by decide +kernel)
set_option maxRecDepth 65536 in
theorem w_c5 : (Jvm.Cond.code ({ cls := "com/example/tallymark/tallymark/SlotArray", name := "set", desc := "(II)V" } : Jvm.MethodName) prog_20_method_4_code (3 : Nat) (Option.none : Option Jvm.ClassFile.FieldType)).before args0 about1 = true := code_word (m := ⟨2, 2⟩) (meth := k2m2) (c := k2c2) (by decide +kernel) rfl rfl rfl (by decide +kernel)
def codes1 : List Jvm.Cond := [Jvm.Cond.code x code maxLocals ret, Jvm.Cond.code ({ cls := "com/example/tallymark/tallymark/SlotArrayGetPinLaw", name := "pick", desc := "(II)I" } : Jvm.MethodName) method_3_code (4 : Nat) (Option.some Jvm.ClassFile.FieldType.int), Jvm.Cond.code ({ cls := "com/example/tallymark/tallymark/SlotArray", name := "<init>", desc := "(II)V" } : Jvm.MethodName) prog_20_method_1_code (3 : Nat) (Option.none : Option Jvm.ClassFile.FieldType), Jvm.Cond.code ({ cls := "java/lang/Object", name := "<init>", desc := "()V" } : Jvm.MethodName) object_method_1_code (1 : Nat) (Option.none : Option Jvm.ClassFile.FieldType), Jvm.Cond.code ({ cls := "com/example/tallymark/tallymark/SlotArray", name := "get", desc := "(I)I" } : Jvm.MethodName) prog_20_method_3_code (2 : Nat) (Option.some Jvm.ClassFile.FieldType.int), Jvm.Cond.code ({ cls := "com/example/tallymark/tallymark/SlotArray", name := "set", desc := "(II)V" } : Jvm.MethodName) prog_20_method_4_code (3 : Nat) (Option.none : Option Jvm.ClassFile.FieldType)]
set_option maxRecDepth 65536 in
theorem codes_eq : words1.filter isCode = codes1 := rfl
theorem w_codes : ∀ c ∈ words1.filter isCode, c.before args0 about1 = true := by
  rw [codes_eq]
  intro c hc
  simp only [codes1, List.mem_cons, List.not_mem_nil, or_false] at hc
  rcases hc with rfl | rfl | rfl | rfl | rfl | rfl
  · exact w_c0
  · exact w_c1
  · exact w_c2
  · exact w_c3
  · exact w_c4
  · exact w_c5
set_option maxRecDepth 65536 in
theorem w_t1 : (words1.take 24).all (fun c => isCode c || c.before args0 about1) = true := by decide +kernel
set_option maxRecDepth 65536 in
theorem w_t2 : (words1.drop 24).all (fun c => isCode c || c.before args0 about1) = true := by decide +kernel
theorem w_tables : (allAtoms (Jvm.Cond.code x code maxLocals ret :: tables_1)).before args0 about1 = true := by
  rw [allAtoms_all]
  show words1.all (fun c => c.before args0 about1) = true
  refine all_split ?_ w_codes
  rw [← List.take_append_drop 24 words1, List.all_append, w_t1, w_t2]
  rfl
set_option maxRecDepth 65536 in
theorem w_case : (Jvm.Cond.and given_1 narrow_1).before args0 about1 = true := by decide +kernel
theorem w_applies : (headSpec (Jvm.Cond.code x code maxLocals ret :: tables_1) room_1).applies x e0.platform about1 = true :=
  (Spec.applies_iff w_frames).mpr ⟨w_running, w_runnable, w_alone, w_named, w_hears, w_ripe, w_room, w_tables⟩
theorem atStart : AtStart classFile x code maxLocals ret World_1 tables_1 room_1 Calls_1 rest_1 Pre_1 launch0 p0 e0 about1 theMethod args0 below0 :=
  ⟨lists_1, trivial, launch0.admits_env _ _ _, launch0.least_env, fairChoices_fair.cas, fairChoices_fair.clock, w_frames, w_args, w_heap, w_applies, trivial, trivial, w_case⟩
end start1
theorem witness_1 : WitnessClaimed_1 := ⟨start1.p0, start1.e0, start1.about1, start1.theMethod, start1.args0, start1.below0, start1.atStart⟩
end Jvm.Pilot.@@N@@
