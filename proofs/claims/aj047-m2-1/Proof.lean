import JvmDerived
import JvmDerived.Pilot.@@N@@Statement
import JvmDerived.Pilot.@@N@@Code
set_option linter.unusedVariables false
set_option linter.unusedSimpArgs false
@@BLOCK:NumsL.lean.txt@@
namespace Jvm.Pilot.@@N@@
open Jvm Jvm.ClassFile Sem Op Lib Jvm.Free Jvm.Stand Jvm.LawKit Jvm.RoadKit Bundle Jvm.Pilot.@@N@@.Jvm.D

/-! the walk's own small kit: from the frame g over the state T the body comes to its end, with Φ -/
def own_Go (p : Program) (e : Env) (below : List Frame) (T : State) (g : JFrame) (Φ : Outcome → State → Prop) : Prop :=
  ∃ s₂ o, Steps p.tables e below (T.setTop g) s₂ ∧ s₂.status = .running ∧ Ended s₂ below o ∧ Φ o s₂
def own_Fin (s : State) (Q : Option Value → Heap → List Loc → Prop) (k j : Nat) (o : Outcome) (U' : State) : Prop :=
  ∃ v L, o = .returned v ∧ Q v U'.heap L ∧ FrameEnd s o U' L k j
theorem own_by {p : Program} {e : Env} {below : List Frame} {T T' : State} {g g' : JFrame} {Φ : Outcome → State → Prop}
    (h : ∀ t, Steps p.tables e below (T'.setTop g') t → Steps p.tables e below (T.setTop g) t) (k : own_Go p e below T' g' Φ) : own_Go p e below T g Φ := by
  obtain ⟨s₂, o, h1, h2⟩ := k
  exact ⟨s₂, o, h _ h1, h2⟩
theorem own_start {p : Program} {e : Env} {below : List Frame} {s T : State} {g g' : JFrame} {Q : Option Value → Heap → List Loc → Prop} {k j : Nat} (hg : g = g')
    (h : own_Go p e below T g' (own_Fin s Q k j)) : ∃ s₂ o, Steps p.tables e below (T.setTop g) s₂ ∧ s₂.status = .running ∧ Ended s₂ below o ∧ ∃ v L, o = .returned v ∧ Q v s₂.heap L ∧ FrameEnd s o s₂ L k j := by
  subst hg
  exact h
section OwnRet
variable {p : Program} {l : Launch} {e : Env} {R : Room} {s : State} {m : MethodId} {args : Array Value} {below : List Frame} {meth : Method} {c : Code} {T : State} {locs : List Loc} {cells slots : Nat} {Q : Option Value → Heap → List Loc → Prop} {k j pc : Nat} {Ls : Array Slot} {rest : List Value}
theorem own_retN {t : FieldType} (ht : t = .boolean ∨ t = .byte ∨ t = .char ∨ t = .short) (X : Stand p l e R s m args below meth c T locs cells slots) (hx : p.tables.exec = Jvm.exec) (hret : meth.sig.returnType = some t) (hlk : meth.locks = false) {z : Int32} (hd : decode c.code pc = .ok (.ireturn, 1))
    (hz : nar t z = z) (hk : cells ≤ k) (hj : slots ≤ j) (q : Q (some (.int z)) T.heap locs) : own_Go p e below T (mkF m pc Ls (.int z :: rest)) (own_Fin s Q k j) := by
  obtain ⟨fs, hr, hrun, hended, hW, hsame⟩ := X.leave (v := some (.int z)) (fun h => by rw [hret] at h; cases h)
  exact ⟨_, _, retN X hx hret ht hd (by rw [hz]; exact hr), hrun, hended, _, _, rfl, q, ⟨_, rfl⟩, hW, hsame.mono hk hj⟩
theorem own_retZ (X : Stand p l e R s m args below meth c T locs cells slots) (hx : p.tables.exec = Jvm.exec) (hret : meth.sig.returnType = some .boolean) (hlk : meth.locks = false) {z : Int32} (hd : decode c.code pc = .ok (.ireturn, 1))
    (hz : nar .boolean z = z) (hk : cells ≤ k) (hj : slots ≤ j) (q : Q (some (.int z)) T.heap locs) : own_Go p e below T (mkF m pc Ls (.int z :: rest)) (own_Fin s Q k j) := own_retN (Or.inl rfl) X hx hret hlk hd hz hk hj q
theorem own_retI (X : Stand p l e R s m args below meth c T locs cells slots) (hx : p.tables.exec = Jvm.exec) (hret : meth.sig.returnType = some .int) (hlk : meth.locks = false) {z : Int32} (hd : decode c.code pc = .ok (.ireturn, 1))
    (hk : cells ≤ k) (hj : slots ≤ j) (q : Q (some (.int z)) T.heap locs) : own_Go p e below T (mkF m pc Ls (.int z :: rest)) (own_Fin s Q k j) := by
  obtain ⟨fs, hr, hrun, hended, hW, hsame⟩ := X.leave (v := some (.int z)) (fun h => by rw [hret] at h; cases h)
  exact ⟨_, _, retOut X hx hret rfl (Or.inl ⟨rfl, Or.inl rfl, z, rfl⟩) hd hr, hrun, hended, _, _, rfl, q, ⟨_, rfl⟩, hW, hsame.mono hk hj⟩
theorem own_retJ (X : Stand p l e R s m args below meth c T locs cells slots) (hx : p.tables.exec = Jvm.exec) (hret : meth.sig.returnType = some .long) (hlk : meth.locks = false) {z : Int64} (hd : decode c.code pc = .ok (.lreturn, 1))
    (hk : cells ≤ k) (hj : slots ≤ j) (q : Q (some (.long z)) T.heap locs) : own_Go p e below T (mkF m pc Ls (.long z :: rest)) (own_Fin s Q k j) := by
  obtain ⟨fs, hr, hrun, hended, hW, hsame⟩ := X.leave (v := some (.long z)) (fun h => by rw [hret] at h; cases h)
  exact ⟨_, _, retOut X hx hret rfl (Or.inr (Or.inl ⟨rfl, rfl, z, rfl⟩)) hd hr, hrun, hended, _, _, rfl, q, ⟨_, rfl⟩, hW, hsame.mono hk hj⟩
theorem own_retA {t : FieldType} (X : Stand p l e R s m args below meth c T locs cells slots) (hx : p.tables.exec = Jvm.exec) (hret : meth.sig.returnType = some t) (hlk : meth.locks = false) {z : Value} (hd : decode c.code pc = .ok (.areturn, 1))
    (ht : t.isReference = true) (hz : z.isRef = true) (hn : narrow t z = z) (hk : cells ≤ k) (hj : slots ≤ j) (q : Q (some z) T.heap locs) : own_Go p e below T (mkF m pc Ls (z :: rest)) (own_Fin s Q k j) := by
  obtain ⟨fs, hr, hrun, hended, hW, hsame⟩ := X.leave (v := some z) (fun h => by rw [hret] at h; cases h)
  exact ⟨_, _, retOut X hx hret hn (Or.inr (Or.inr (Or.inr (Or.inr ⟨rfl, ht, hz⟩)))) hd hr, hrun, hended, _, _, rfl, q, ⟨_, rfl⟩, hW, hsame.mono hk hj⟩
theorem own_retV (X : Stand p l e R s m args below meth c T locs cells slots) (hx : p.tables.exec = Jvm.exec) (hret : meth.sig.returnType = none) (hlk : meth.locks = false) (hd : decode c.code pc = .ok (.return_, 1))
    (hk : cells ≤ k) (hj : slots ≤ j) (q : Q none T.heap locs) : own_Go p e below T (mkF m pc Ls []) (own_Fin s Q k j) := by
  obtain ⟨fs, hr, hrun, hended, hW, hsame⟩ := X.leave (v := none) (fun _ => rfl)
  exact ⟨_, _, X.returnOut hx hret hd hr, hrun, hended, _, _, rfl, q, ⟨_, rfl⟩, hW, hsame.mono hk hj⟩
theorem own_lrem_eq (x y : Int64) : x - x / y * y = x % y := Int64.toInt_inj.mp (by rw [Jvm.Kit.i64_rem, Int64.toInt_mod])
theorem own_lrem {g : JFrame} {target : State} (X : Stand p l e R s m args below meth c T locs cells slots) (hx : p.tables.exec = Jvm.exec) (hg : g.method = m) {x y : Int64} {rest : List Value} (hd : decode c.code g.pc = .ok (.lrem, 1)) (hs : g.stack = .long y :: .long x :: rest) (hy : y ≠ 0)
    (hr : Steps p.tables e below (T.setTop { g with pc := g.pc + 1, stack := .long (x % y) :: rest }) target) : Steps p.tables e below (T.setTop g) target :=
  XS.lrem X.here hx hg hd hs hy (by rw [own_lrem_eq x y]; exact hr)
end OwnRet
/-! an array: its length, and what each place holds -/
abbrev own_At (j : Int32) (k : Nat) : Prop := ¬ j < 0 ∧ j.toNatClampNeg = k
def own_upd (f : Nat → Value) (k : Nat) (v : Value) : Nat → Value := fun i => if i = k then v else f i
theorem own_upd_hit {f : Nat → Value} {k i : Nat} {v : Value} (h : i = k) : own_upd f k v i = v := if_pos h
theorem own_upd_miss {f : Nat → Value} {k i : Nat} {v : Value} (h : ¬ i = k) : own_upd f k v i = f i := if_neg h
def own_Av (Z : State) (h : Heap) (a : Addr) (ty : FieldType) (n : Nat) (f : Nat → Value) : Prop := ∃ c : Cell, Arr Z h a c ty ∧ c.slots.size = n ∧ ∀ i, i < n → c.slots[i]? = some (f i)
section OwnArr
variable {Z : State} {h h' : Heap} {a b : Addr} {ty : FieldType} {n k sl : Nat} {f : Nat → Value} {v : Value} {ws : List Addr}
theorem own_Av.ext (F : own_Av Z h a ty n f) (E : Ext h h') : own_Av Z h' a ty n f := by obtain ⟨c, A, r⟩ := F; exact ⟨c, A.ext E, r⟩
theorem own_Av.other (F : own_Av Z h b ty n f) (W : Wr h h' a sl v) (q : b ≠ a) : own_Av Z h' b ty n f := by obtain ⟨c, A, r⟩ := F; exact ⟨c, A.other W q, r⟩
theorem own_Av.keep (F : own_Av Z h a ty n f) (K : Keep h h' ws) (q : a ∉ ws) : own_Av Z h' a ty n f := by obtain ⟨c, A, r⟩ := F; exact ⟨c, ⟨K.2.1 a c A.1 q, A.2⟩, r⟩
theorem own_Av.lt (F : own_Av Z h a ty n f) : a < h.size := by obtain ⟨c, A, -⟩ := F; exact A.lt
theorem own_Av.ofnew {z : Int32} {kc : ClassId} {d : Value} (A : Arr Z h a (newA kc ty z) ty) (hn : z.toNatClampNeg = n) (hd : defaultValue ty = d) : own_Av Z h a ty n (fun _ => d) := by
  subst hn hd
  exact ⟨_, A, sz_new _ _ _, fun i hi => by simp [newA, hi]⟩
theorem own_Av.set (F : own_Av Z h a ty n f) (W : Wr h h' a k v) : own_Av Z h' a ty n (own_upd f k v) := by
  obtain ⟨c, A, S, H⟩ := F
  refine ⟨_, A.same W, by rw [sz_set]; exact S, fun i hi => ?_⟩
  by_cases q : i = k
  · subst q
    rw [own_upd_hit rfl]
    simp [Cell.setSlot, S, hi]
  · rw [own_upd_miss q, ← H i hi]
    exact Array.getElem?_setIfInBounds_ne fun u => q u.symm
theorem own_Av.cong {g : Nat → Value} {n' : Nat} (F : own_Av Z h a ty n f) (hn : n = n') (q : ∀ i, i < n → f i = g i) : own_Av Z h a ty n' g := by
  subst hn
  obtain ⟨c, A, S, H⟩ := F
  exact ⟨c, A, S, fun i hi => by rw [← q i hi]; exact H i hi⟩
theorem own_in {j : Int32} (hj : own_At j k) (hk : k < n) {c : Cell} (S : c.slots.size = n) : ¬ (j < 0 ∨ c.slots.size ≤ j.toNatClampNeg) := by
  intro q
  rcases q with q | q
  · exact hj.1 q
  · rw [hj.2, S] at q; omega
variable {p : Program} {l : Launch} {e : Env} {R : Room} {s : State} {m : MethodId} {args : Array Value} {below : List Frame} {meth : Method} {c : Code} {T : State} {locs : List Loc} {cells slots : Nat}
theorem own_ldI (X : Stand p l e R s m args below meth c T locs cells slots) (hx : p.tables.exec = Jvm.exec) (hZ : Z.Warmed39 s.vm) (eT : T.heap = h) (F : own_Av Z h a .int n f) {j : Int32} (hj : own_At j k) (hk : k < n) (hv : f k = v)
    {g : JFrame} (hg : g.method = m) {rest : List Value} (hs : g.stack = .int j :: .ref a :: rest) (hd : decode c.code g.pc = .ok (.iaload, 1)) (t : State)
    (hr : Steps p.tables e below (T.setTop { g with pc := g.pc + 1, stack := v :: rest }) t) : Steps p.tables e below (T.setTop g) t := by
  obtain ⟨cl, A, S, H⟩ := F
  exact X.iaload hx (by rw [eT]; exact A.1) (State.isArrayOf_alike hZ.alike A.2.1) A.2.2 (own_in hj hk S) (by rw [hj.2, H k hk, hv]) hg hs hd t hr
theorem own_ldJ (X : Stand p l e R s m args below meth c T locs cells slots) (hx : p.tables.exec = Jvm.exec) (hZ : Z.Warmed39 s.vm) (eT : T.heap = h) (F : own_Av Z h a .long n f) {j : Int32} (hj : own_At j k) (hk : k < n) (hv : f k = v)
    {g : JFrame} (hg : g.method = m) {rest : List Value} (hs : g.stack = .int j :: .ref a :: rest) (hd : decode c.code g.pc = .ok (.laload, 1)) (t : State)
    (hr : Steps p.tables e below (T.setTop { g with pc := g.pc + 1, stack := v :: rest }) t) : Steps p.tables e below (T.setTop g) t := by
  obtain ⟨cl, A, S, H⟩ := F
  exact X.laload hx (by rw [eT]; exact A.1) (State.isArrayOf_alike hZ.alike A.2.1) A.2.2 (own_in hj hk S) (by rw [hj.2, H k hk, hv]) hg hs hd t hr
theorem own_ldS (X : Stand p l e R s m args below meth c T locs cells slots) (hx : p.tables.exec = Jvm.exec) (hZ : Z.Warmed39 s.vm) (eT : T.heap = h) (F : own_Av Z h a .short n f) {j : Int32} (hj : own_At j k) (hk : k < n) (hv : f k = v)
    {g : JFrame} (hg : g.method = m) {rest : List Value} (hs : g.stack = .int j :: .ref a :: rest) (hd : decode c.code g.pc = .ok (.saload, 1)) (t : State)
    (hr : Steps p.tables e below (T.setTop { g with pc := g.pc + 1, stack := v :: rest }) t) : Steps p.tables e below (T.setTop g) t := by
  obtain ⟨cl, A, S, H⟩ := F
  exact X.saload hx (by rw [eT]; exact A.1) (State.isArrayOf_alike hZ.alike A.2.1) A.2.2 (own_in hj hk S) (by rw [hj.2, H k hk, hv]) hg hs hd t hr
theorem own_ldC (X : Stand p l e R s m args below meth c T locs cells slots) (hx : p.tables.exec = Jvm.exec) (hZ : Z.Warmed39 s.vm) (eT : T.heap = h) (F : own_Av Z h a .char n f) {j : Int32} (hj : own_At j k) (hk : k < n) (hv : f k = v)
    {g : JFrame} (hg : g.method = m) {rest : List Value} (hs : g.stack = .int j :: .ref a :: rest) (hd : decode c.code g.pc = .ok (.caload, 1)) (t : State)
    (hr : Steps p.tables e below (T.setTop { g with pc := g.pc + 1, stack := v :: rest }) t) : Steps p.tables e below (T.setTop g) t := by
  obtain ⟨cl, A, S, H⟩ := F
  exact X.caload hx (by rw [eT]; exact A.1) (State.isArrayOf_alike hZ.alike A.2.1) A.2.2 (own_in hj hk S) (by rw [hj.2, H k hk, hv]) hg hs hd t hr
theorem own_ldB (X : Stand p l e R s m args below meth c T locs cells slots) (hx : p.tables.exec = Jvm.exec) (hZ : Z.Warmed39 s.vm) (eT : T.heap = h) (F : own_Av Z h a .byte n f) {j : Int32} (hj : own_At j k) (hk : k < n) (hv : f k = v)
    {g : JFrame} (hg : g.method = m) {rest : List Value} (hs : g.stack = .int j :: .ref a :: rest) (hd : decode c.code g.pc = .ok (.baload, 1)) (t : State)
    (hr : Steps p.tables e below (T.setTop { g with pc := g.pc + 1, stack := v :: rest }) t) : Steps p.tables e below (T.setTop g) t := by
  obtain ⟨cl, A, S, H⟩ := F
  exact X.baloadBytes hx (by rw [eT]; exact A.1) (State.isArrayOf_alike hZ.alike A.2.1) A.2.2 (own_in hj hk S) (by rw [hj.2, H k hk, hv]) hg hs hd t hr
theorem own_ldZ (X : Stand p l e R s m args below meth c T locs cells slots) (hx : p.tables.exec = Jvm.exec) (hZ : Z.Warmed39 s.vm) (eT : T.heap = h) (F : own_Av Z h a .boolean n f) {j : Int32} (hj : own_At j k) (hk : k < n) (hv : f k = v)
    {g : JFrame} (hg : g.method = m) {rest : List Value} (hs : g.stack = .int j :: .ref a :: rest) (hd : decode c.code g.pc = .ok (.baload, 1)) (t : State)
    (hr : Steps p.tables e below (T.setTop { g with pc := g.pc + 1, stack := v :: rest }) t) : Steps p.tables e below (T.setTop g) t := by
  obtain ⟨cl, A, S, H⟩ := F
  exact X.baloadBooleans hx (by rw [eT]; exact A.1) (State.isArrayOf_alike hZ.alike A.2.1) A.2.2 (own_in hj hk S) (by rw [hj.2, H k hk, hv]) hg hs hd t hr
theorem own_len (X : Stand p l e R s m args below meth c T locs cells slots) (hx : p.tables.exec = Jvm.exec) (hZ : Z.Warmed39 s.vm) (eT : T.heap = h) (F : own_Av Z h a ty n f) {z : Int32} (hz : n.toInt32 = z)
    {g : JFrame} (hg : g.method = m) {rest : List Value} (hs : g.stack = .ref a :: rest) (hd : decode c.code g.pc = .ok (.arraylength, 1)) (t : State)
    (hr : Steps p.tables e below (T.setTop { g with pc := g.pc + 1, stack := .int z :: rest }) t) : Steps p.tables e below (T.setTop g) t := by
  obtain ⟨cl, A, S, H⟩ := F
  exact X.arraylength hx (by rw [eT]; exact A.1) (State.isArrayOf_alike hZ.alike A.2.1) hg hs hd t (by rw [S, hz]; exact hr)
theorem own_stI (X : Stand p l e R s m args below meth c T locs cells slots) (hx : p.tables.exec = Jvm.exec) (hZ : Z.Warmed39 s.vm) (eT : T.heap = h) (F : own_Av Z h a .int n f) {j x : Int32} (hj : own_At j k) (hk : k < n)
    {g : JFrame} (hg : g.method = m) {rest : List Value} (hs : g.stack = .int x :: .int j :: .ref a :: rest) (hd : decode c.code g.pc = .ok (.iastore, 1)) :
    ∃ T' h', Stand p l e R s m args below meth c T' (locs ++ [⟨a, k⟩]) cells slots ∧ T'.heap = h' ∧ Wr h h' a k (.int x) ∧ own_Av Z h' a .int n (own_upd f k (.int x)) ∧ ∀ target, Steps p.tables e below (T'.setTop { g with pc := g.pc + 1, stack := rest }) target → Steps p.tables e below (T.setTop g) target := by
  obtain ⟨cl, A, S, H⟩ := id F
  obtain ⟨T', h', X', e', W', st⟩ := stI X hx hZ eT A (own_in hj hk S) hg hs hd
  rw [hj.2] at X' W'
  exact ⟨T', h', X', e', W', F.set W', st⟩
theorem own_stJ (X : Stand p l e R s m args below meth c T locs cells slots) (hx : p.tables.exec = Jvm.exec) (hZ : Z.Warmed39 s.vm) (eT : T.heap = h) (F : own_Av Z h a .long n f) {j : Int32} {x : Int64} (hj : own_At j k) (hk : k < n)
    {g : JFrame} (hg : g.method = m) {rest : List Value} (hs : g.stack = .long x :: .int j :: .ref a :: rest) (hd : decode c.code g.pc = .ok (.lastore, 1)) :
    ∃ T' h', Stand p l e R s m args below meth c T' (locs ++ [⟨a, k⟩]) cells slots ∧ T'.heap = h' ∧ Wr h h' a k (.long x) ∧ own_Av Z h' a .long n (own_upd f k (.long x)) ∧ ∀ target, Steps p.tables e below (T'.setTop { g with pc := g.pc + 1, stack := rest }) target → Steps p.tables e below (T.setTop g) target := by
  obtain ⟨cl, A, S, H⟩ := id F
  obtain ⟨T', h', X', e', W', st⟩ := stJ X hx hZ eT A (own_in hj hk S) hg hs hd
  rw [hj.2] at X' W'
  exact ⟨T', h', X', e', W', F.set W', st⟩
theorem own_stB (X : Stand p l e R s m args below meth c T locs cells slots) (hx : p.tables.exec = Jvm.exec) (hZ : Z.Warmed39 s.vm) (eT : T.heap = h) (F : own_Av Z h a .byte n f) {j x : Int32} (hj : own_At j k) (hk : k < n)
    {g : JFrame} (hg : g.method = m) {rest : List Value} (hs : g.stack = .int x :: .int j :: .ref a :: rest) (hd : decode c.code g.pc = .ok (.bastore, 1)) :
    ∃ T' h', Stand p l e R s m args below meth c T' (locs ++ [⟨a, k⟩]) cells slots ∧ T'.heap = h' ∧ Wr h h' a k (.int x.toInt8.toInt32) ∧ own_Av Z h' a .byte n (own_upd f k (.int x.toInt8.toInt32)) ∧ ∀ target, Steps p.tables e below (T'.setTop { g with pc := g.pc + 1, stack := rest }) target → Steps p.tables e below (T.setTop g) target := by
  obtain ⟨cl, A, S, H⟩ := id F
  obtain ⟨T', h', X', e', W', st⟩ := stB X hx hZ eT A (own_in hj hk S) hg hs hd
  rw [hj.2] at X' W'
  exact ⟨T', h', X', e', W', F.set W', st⟩
theorem own_stZ (X : Stand p l e R s m args below meth c T locs cells slots) (hx : p.tables.exec = Jvm.exec) (hZ : Z.Warmed39 s.vm) (eT : T.heap = h) (F : own_Av Z h a .boolean n f) {j x : Int32} (hj : own_At j k) (hk : k < n)
    {g : JFrame} (hg : g.method = m) {rest : List Value} (hs : g.stack = .int x :: .int j :: .ref a :: rest) (hd : decode c.code g.pc = .ok (.bastore, 1)) :
    ∃ T' h', Stand p l e R s m args below meth c T' (locs ++ [⟨a, k⟩]) cells slots ∧ T'.heap = h' ∧ Wr h h' a k (.int (x &&& 1)) ∧ own_Av Z h' a .boolean n (own_upd f k (.int (x &&& 1))) ∧ ∀ target, Steps p.tables e below (T'.setTop { g with pc := g.pc + 1, stack := rest }) target → Steps p.tables e below (T.setTop g) target := by
  obtain ⟨cl, A, S, H⟩ := id F
  obtain ⟨T', h', X', e', W', st⟩ := stZ X hx hZ eT A (own_in hj hk S) hg hs hd
  rw [hj.2] at X' W'
  exact ⟨T', h', X', e', W', F.set W', st⟩
theorem own_stC (X : Stand p l e R s m args below meth c T locs cells slots) (hx : p.tables.exec = Jvm.exec) (hZ : Z.Warmed39 s.vm) (eT : T.heap = h) (F : own_Av Z h a .char n f) {j x : Int32} (hj : own_At j k) (hk : k < n)
    {g : JFrame} (hg : g.method = m) {rest : List Value} (hs : g.stack = .int x :: .int j :: .ref a :: rest) (hd : decode c.code g.pc = .ok (.castore, 1)) :
    ∃ T' h', Stand p l e R s m args below meth c T' (locs ++ [⟨a, k⟩]) cells slots ∧ T'.heap = h' ∧ Wr h h' a k (.int (nar .char x)) ∧ own_Av Z h' a .char n (own_upd f k (.int (nar .char x))) ∧ ∀ target, Steps p.tables e below (T'.setTop { g with pc := g.pc + 1, stack := rest }) target → Steps p.tables e below (T.setTop g) target := by
  obtain ⟨cl, A, S, H⟩ := id F
  obtain ⟨T', h', X', e', W', st⟩ := stC X hx hZ eT A (own_in hj hk S) hg hs hd
  rw [hj.2] at X' W'
  exact ⟨T', h', X', e', W', F.set W', st⟩
theorem own_stS (X : Stand p l e R s m args below meth c T locs cells slots) (hx : p.tables.exec = Jvm.exec) (hZ : Z.Warmed39 s.vm) (eT : T.heap = h) (F : own_Av Z h a .short n f) {j x : Int32} (hj : own_At j k) (hk : k < n)
    {g : JFrame} (hg : g.method = m) {rest : List Value} (hs : g.stack = .int x :: .int j :: .ref a :: rest) (hd : decode c.code g.pc = .ok (.sastore, 1)) :
    ∃ T' h', Stand p l e R s m args below meth c T' (locs ++ [⟨a, k⟩]) cells slots ∧ T'.heap = h' ∧ Wr h h' a k (.int (nar .short x)) ∧ own_Av Z h' a .short n (own_upd f k (.int (nar .short x))) ∧ ∀ target, Steps p.tables e below (T'.setTop { g with pc := g.pc + 1, stack := rest }) target → Steps p.tables e below (T.setTop g) target := by
  obtain ⟨cl, A, S, H⟩ := id F
  obtain ⟨T', h', X', e', W', st⟩ := stS X hx hZ eT A (own_in hj hk S) hg hs hd
  rw [hj.2] at X' W'
  exact ⟨T', h', X', e', W', F.set W', st⟩
end OwnArr
theorem own_selP {Z s : State} {a0 args : Array Value} {y : MethodName} {n : Nat} (hZ : Z.Warmed39 s.vm) (wi : (Cond.instantiable y.cls n).before a0 Z = true) (wp : (Cond.privateMethod y).before a0 Z = true) (wm : (Cond.instanceMethod y).before a0 Z = true)
    (hy : y.cls ≠ "java/lang/invoke/MethodHandle" ∧ y.cls ≠ "java/lang/invoke/VarHandle") : (Cond.selects y.cls y y).before args s = true := by
  have w : (Cond.instantiable y.cls n).before args s = true := mvT hZ wi
  obtain ⟨c, k, h1, h2, -, h4, -⟩ := Cond.instantiable_spec w
  exact Jvm.Stand.selects_self_of_private h1 h2 (Bool.or_eq_false_iff.mp h4).1 (Cond.privateMethod_at (mvP hZ wp (args := args))) (mvT hZ wm) hy
theorem own_narZ {x : Int32} (h : x &&& 1 = x) : narrow .boolean (.int x) = .int x := by
  show Value.int (x &&& 1) = _
  rw [h]
theorem own_fitZ {x : Int32} (h : x &&& 1 = x) : fits .boolean (.int x) = true := by
  have q := fits_nar_bool x
  rw [show nar .boolean x = x from h] at q
  exact q
theorem own_mono {p : Program} {e : Env} {below : List Frame} {s T : State} {g : JFrame} {Q Q' : Option Value → Heap → List Loc → Prop} {k j : Nat} (h : ∀ v h L, Q v h L → Q' v h L) (G : own_Go p e below T g (own_Fin s Q k j)) : own_Go p e below T g (own_Fin s Q' k j) := by
  obtain ⟨s₂, o, h1, h2, h3, v, L, h4, h5, h6⟩ := G
  exact ⟨s₂, o, h1, h2, h3, v, L, h4, h _ _ _ h5, h6⟩
theorem own_ofs (i : Nat) : Int32.ofNat i + (1 : Int32) = Int32.ofNat (i + 1) := (Int32.ofNat_add i 1).symm
theorem own_toI {i : Nat} (h : i < 2147483648) : (Int32.ofNat i).toInt = i := Int32.toInt_ofNat_small h
theorem own_ix {i : Nat} (h : i < 2147483648) : own_At (Int32.ofNat i) i := by
  have e := own_toI h
  refine ⟨?_, ?_⟩
  · rw [Int32.lt_iff_toInt_lt, e, show (0 : Int32).toInt = 0 from by decide]; omega
  · simp only [Int32.toNatClampNeg, e]; omega
theorem own_oflt {i n : Nat} (hi : i < 2147483648) (hn : n < 2147483648) : Int32.ofNat i < Int32.ofNat n ↔ i < n := by
  rw [Int32.lt_iff_toInt_lt, own_toI hi, own_toI hn]; omega
theorem own_ofeq {i n : Nat} (hi : i < 2147483648) (hn : n < 2147483648) : Int32.ofNat i = Int32.ofNat n ↔ i = n := by
  rw [← Int32.toInt_inj, own_toI hi, own_toI hn]; omega
def own_fl (F : Nat → Int32) (i : Nat) (g : Nat → Value) (j : Nat) : Value := if j < i then .int (F j) else g j
theorem own_fl_up (F : Nat → Int32) (i : Nat) (g : Nat → Value) : ∀ j, own_upd (own_fl F i g) i (.int (F i)) j = own_fl F (i + 1) g j := fun j => by
  unfold own_fl
  by_cases q : j = i
  · subst q; rw [own_upd_hit rfl, if_pos (by omega)]
  · rw [own_upd_miss q]
    by_cases q2 : j < i
    · rw [if_pos q2, if_pos (by omega)]
    · rw [if_neg q2, if_neg (by omega)]
theorem own_fl0 (F : Nat → Int32) (g : Nat → Value) : ∀ j, g j = own_fl F 0 g j := fun j => by unfold own_fl; rw [if_neg (by omega)]
theorem own_fl_in {F : Nat → Int32} {i j : Nat} {g : Nat → Value} (h : j < i) : own_fl F i g j = .int (F j) := if_pos h
theorem own_fl_out {F : Nat → Int32} {i j : Nat} {g : Nat → Value} (h : ¬ j < i) : own_fl F i g j = g j := if_neg h

/-! single steps over own_Go -/
theorem own_s_iadd {p : Program} {e : Env} {below : List Frame} {T : State} {m : MethodId} {c : Code} {Φ : Outcome → State → Prop} {pc : Nat} {L : Array Slot} {S : List Value} (h : At T m c below) (hx : p.tables.exec = Jvm.exec) {x y : Int32} (hd : decode c.code pc = .ok (.iadd, 1)) (G : own_Go p e below T (mkF m (pc + 1) L (.int (x + y) :: S)) Φ) : own_Go p e below T (mkF m pc L (.int y :: .int x :: S)) Φ := own_by (fun t k => XS.iadd h hx rfl hd rfl k) G
theorem own_s_isub {p : Program} {e : Env} {below : List Frame} {T : State} {m : MethodId} {c : Code} {Φ : Outcome → State → Prop} {pc : Nat} {L : Array Slot} {S : List Value} (h : At T m c below) (hx : p.tables.exec = Jvm.exec) {x y : Int32} (hd : decode c.code pc = .ok (.isub, 1)) (G : own_Go p e below T (mkF m (pc + 1) L (.int (x - y) :: S)) Φ) : own_Go p e below T (mkF m pc L (.int y :: .int x :: S)) Φ := own_by (fun t k => XS.isub h hx rfl hd rfl k) G
theorem own_s_imul {p : Program} {e : Env} {below : List Frame} {T : State} {m : MethodId} {c : Code} {Φ : Outcome → State → Prop} {pc : Nat} {L : Array Slot} {S : List Value} (h : At T m c below) (hx : p.tables.exec = Jvm.exec) {x y : Int32} (hd : decode c.code pc = .ok (.imul, 1)) (G : own_Go p e below T (mkF m (pc + 1) L (.int (x * y) :: S)) Φ) : own_Go p e below T (mkF m pc L (.int y :: .int x :: S)) Φ := own_by (fun t k => XS.imul h hx rfl hd rfl k) G
theorem own_s_iand {p : Program} {e : Env} {below : List Frame} {T : State} {m : MethodId} {c : Code} {Φ : Outcome → State → Prop} {pc : Nat} {L : Array Slot} {S : List Value} (h : At T m c below) (hx : p.tables.exec = Jvm.exec) {x y : Int32} (hd : decode c.code pc = .ok (.iand, 1)) (G : own_Go p e below T (mkF m (pc + 1) L (.int (x &&& y) :: S)) Φ) : own_Go p e below T (mkF m pc L (.int y :: .int x :: S)) Φ := own_by (fun t k => XS.iand h hx rfl hd rfl k) G
theorem own_s_ior {p : Program} {e : Env} {below : List Frame} {T : State} {m : MethodId} {c : Code} {Φ : Outcome → State → Prop} {pc : Nat} {L : Array Slot} {S : List Value} (h : At T m c below) (hx : p.tables.exec = Jvm.exec) {x y : Int32} (hd : decode c.code pc = .ok (.ior, 1)) (G : own_Go p e below T (mkF m (pc + 1) L (.int (x ||| y) :: S)) Φ) : own_Go p e below T (mkF m pc L (.int y :: .int x :: S)) Φ := own_by (fun t k => XS.ior h hx rfl hd rfl k) G
theorem own_s_ixor {p : Program} {e : Env} {below : List Frame} {T : State} {m : MethodId} {c : Code} {Φ : Outcome → State → Prop} {pc : Nat} {L : Array Slot} {S : List Value} (h : At T m c below) (hx : p.tables.exec = Jvm.exec) {x y : Int32} (hd : decode c.code pc = .ok (.ixor, 1)) (G : own_Go p e below T (mkF m (pc + 1) L (.int (x ^^^ y) :: S)) Φ) : own_Go p e below T (mkF m pc L (.int y :: .int x :: S)) Φ := own_by (fun t k => XS.ixor h hx rfl hd rfl k) G
theorem own_s_ladd {p : Program} {e : Env} {below : List Frame} {T : State} {m : MethodId} {c : Code} {Φ : Outcome → State → Prop} {pc : Nat} {L : Array Slot} {S : List Value} (h : At T m c below) (hx : p.tables.exec = Jvm.exec) {x y : Int64} (hd : decode c.code pc = .ok (.ladd, 1)) (G : own_Go p e below T (mkF m (pc + 1) L (.long (x + y) :: S)) Φ) : own_Go p e below T (mkF m pc L (.long y :: .long x :: S)) Φ := own_by (fun t k => XS.ladd h hx rfl hd rfl k) G
theorem own_s_lsub {p : Program} {e : Env} {below : List Frame} {T : State} {m : MethodId} {c : Code} {Φ : Outcome → State → Prop} {pc : Nat} {L : Array Slot} {S : List Value} (h : At T m c below) (hx : p.tables.exec = Jvm.exec) {x y : Int64} (hd : decode c.code pc = .ok (.lsub, 1)) (G : own_Go p e below T (mkF m (pc + 1) L (.long (x - y) :: S)) Φ) : own_Go p e below T (mkF m pc L (.long y :: .long x :: S)) Φ := own_by (fun t k => XS.lsub h hx rfl hd rfl k) G
theorem own_s_lmul {p : Program} {e : Env} {below : List Frame} {T : State} {m : MethodId} {c : Code} {Φ : Outcome → State → Prop} {pc : Nat} {L : Array Slot} {S : List Value} (h : At T m c below) (hx : p.tables.exec = Jvm.exec) {x y : Int64} (hd : decode c.code pc = .ok (.lmul, 1)) (G : own_Go p e below T (mkF m (pc + 1) L (.long (x * y) :: S)) Φ) : own_Go p e below T (mkF m pc L (.long y :: .long x :: S)) Φ := own_by (fun t k => XS.lmul h hx rfl hd rfl k) G
theorem own_s_land {p : Program} {e : Env} {below : List Frame} {T : State} {m : MethodId} {c : Code} {Φ : Outcome → State → Prop} {pc : Nat} {L : Array Slot} {S : List Value} (h : At T m c below) (hx : p.tables.exec = Jvm.exec) {x y : Int64} (hd : decode c.code pc = .ok (.land, 1)) (G : own_Go p e below T (mkF m (pc + 1) L (.long (x &&& y) :: S)) Φ) : own_Go p e below T (mkF m pc L (.long y :: .long x :: S)) Φ := own_by (fun t k => XS.land h hx rfl hd rfl k) G
theorem own_s_lor {p : Program} {e : Env} {below : List Frame} {T : State} {m : MethodId} {c : Code} {Φ : Outcome → State → Prop} {pc : Nat} {L : Array Slot} {S : List Value} (h : At T m c below) (hx : p.tables.exec = Jvm.exec) {x y : Int64} (hd : decode c.code pc = .ok (.lor, 1)) (G : own_Go p e below T (mkF m (pc + 1) L (.long (x ||| y) :: S)) Φ) : own_Go p e below T (mkF m pc L (.long y :: .long x :: S)) Φ := own_by (fun t k => XS.lor h hx rfl hd rfl k) G
theorem own_s_lxor {p : Program} {e : Env} {below : List Frame} {T : State} {m : MethodId} {c : Code} {Φ : Outcome → State → Prop} {pc : Nat} {L : Array Slot} {S : List Value} (h : At T m c below) (hx : p.tables.exec = Jvm.exec) {x y : Int64} (hd : decode c.code pc = .ok (.lxor, 1)) (G : own_Go p e below T (mkF m (pc + 1) L (.long (x ^^^ y) :: S)) Φ) : own_Go p e below T (mkF m pc L (.long y :: .long x :: S)) Φ := own_by (fun t k => XS.lxor h hx rfl hd rfl k) G
theorem own_s_ishl {p : Program} {e : Env} {below : List Frame} {T : State} {m : MethodId} {c : Code} {Φ : Outcome → State → Prop} {pc : Nat} {L : Array Slot} {S : List Value} (h : At T m c below) (hx : p.tables.exec = Jvm.exec) {x y : Int32} (hd : decode c.code pc = .ok (.ishl, 1)) (G : own_Go p e below T (mkF m (pc + 1) L (.int (x <<< (y &&& 31)) :: S)) Φ) : own_Go p e below T (mkF m pc L (.int y :: .int x :: S)) Φ := own_by (fun t k => XS.ishl h hx rfl hd rfl k) G
theorem own_s_ishr {p : Program} {e : Env} {below : List Frame} {T : State} {m : MethodId} {c : Code} {Φ : Outcome → State → Prop} {pc : Nat} {L : Array Slot} {S : List Value} (h : At T m c below) (hx : p.tables.exec = Jvm.exec) {x y : Int32} (hd : decode c.code pc = .ok (.ishr, 1)) (G : own_Go p e below T (mkF m (pc + 1) L (.int (x >>> (y &&& 31)) :: S)) Φ) : own_Go p e below T (mkF m pc L (.int y :: .int x :: S)) Φ := own_by (fun t k => XS.ishr h hx rfl hd rfl k) G
theorem own_s_iushr {p : Program} {e : Env} {below : List Frame} {T : State} {m : MethodId} {c : Code} {Φ : Outcome → State → Prop} {pc : Nat} {L : Array Slot} {S : List Value} (h : At T m c below) (hx : p.tables.exec = Jvm.exec) {x y : Int32} (hd : decode c.code pc = .ok (.iushr, 1)) (G : own_Go p e below T (mkF m (pc + 1) L (.int ((x.toUInt32 >>> (y &&& 31).toUInt32).toInt32) :: S)) Φ) : own_Go p e below T (mkF m pc L (.int y :: .int x :: S)) Φ := own_by (fun t k => XS.iushr h hx rfl hd rfl k) G
theorem own_s_lshl {p : Program} {e : Env} {below : List Frame} {T : State} {m : MethodId} {c : Code} {Φ : Outcome → State → Prop} {pc : Nat} {L : Array Slot} {S : List Value} (h : At T m c below) (hx : p.tables.exec = Jvm.exec) {x : Int64} {y : Int32} (hd : decode c.code pc = .ok (.lshl, 1)) (G : own_Go p e below T (mkF m (pc + 1) L (.long (x <<< (y &&& 0x3f).toInt64) :: S)) Φ) : own_Go p e below T (mkF m pc L (.int y :: .long x :: S)) Φ := own_by (fun t k => XS.lshl h hx rfl hd rfl k) G
theorem own_s_lshr {p : Program} {e : Env} {below : List Frame} {T : State} {m : MethodId} {c : Code} {Φ : Outcome → State → Prop} {pc : Nat} {L : Array Slot} {S : List Value} (h : At T m c below) (hx : p.tables.exec = Jvm.exec) {x : Int64} {y : Int32} (hd : decode c.code pc = .ok (.lshr, 1)) (G : own_Go p e below T (mkF m (pc + 1) L (.long (x >>> (y &&& 0x3f).toInt64) :: S)) Φ) : own_Go p e below T (mkF m pc L (.int y :: .long x :: S)) Φ := own_by (fun t k => XS.lshr h hx rfl hd rfl k) G
theorem own_s_lushr {p : Program} {e : Env} {below : List Frame} {T : State} {m : MethodId} {c : Code} {Φ : Outcome → State → Prop} {pc : Nat} {L : Array Slot} {S : List Value} (h : At T m c below) (hx : p.tables.exec = Jvm.exec) {x : Int64} {y : Int32} (hd : decode c.code pc = .ok (.lushr, 1)) (G : own_Go p e below T (mkF m (pc + 1) L (.long ((x.toUInt64 >>> (y &&& 0x3f).toInt64.toUInt64).toInt64) :: S)) Φ) : own_Go p e below T (mkF m pc L (.int y :: .long x :: S)) Φ := own_by (fun t k => XS.lushr h hx rfl hd rfl k) G
theorem own_s_ineg {p : Program} {e : Env} {below : List Frame} {T : State} {m : MethodId} {c : Code} {Φ : Outcome → State → Prop} {pc : Nat} {L : Array Slot} {S : List Value} (h : At T m c below) (hx : p.tables.exec = Jvm.exec) {x : Int32} (hd : decode c.code pc = .ok (.ineg, 1)) (G : own_Go p e below T (mkF m (pc + 1) L (.int (-x) :: S)) Φ) : own_Go p e below T (mkF m pc L (.int x :: S)) Φ := own_by (fun t k => XS.ineg h hx rfl hd rfl k) G
theorem own_s_lneg {p : Program} {e : Env} {below : List Frame} {T : State} {m : MethodId} {c : Code} {Φ : Outcome → State → Prop} {pc : Nat} {L : Array Slot} {S : List Value} (h : At T m c below) (hx : p.tables.exec = Jvm.exec) {x : Int64} (hd : decode c.code pc = .ok (.lneg, 1)) (G : own_Go p e below T (mkF m (pc + 1) L (.long (-x) :: S)) Φ) : own_Go p e below T (mkF m pc L (.long x :: S)) Φ := own_by (fun t k => XS.lneg h hx rfl hd rfl k) G
theorem own_s_i2l {p : Program} {e : Env} {below : List Frame} {T : State} {m : MethodId} {c : Code} {Φ : Outcome → State → Prop} {pc : Nat} {L : Array Slot} {S : List Value} (h : At T m c below) (hx : p.tables.exec = Jvm.exec) {x : Int32} (hd : decode c.code pc = .ok (.i2l, 1)) (G : own_Go p e below T (mkF m (pc + 1) L (.long (x.toInt64) :: S)) Φ) : own_Go p e below T (mkF m pc L (.int x :: S)) Φ := own_by (fun t k => XS.i2l h hx rfl hd rfl k) G
theorem own_s_l2i {p : Program} {e : Env} {below : List Frame} {T : State} {m : MethodId} {c : Code} {Φ : Outcome → State → Prop} {pc : Nat} {L : Array Slot} {S : List Value} (h : At T m c below) (hx : p.tables.exec = Jvm.exec) {x : Int64} (hd : decode c.code pc = .ok (.l2i, 1)) (G : own_Go p e below T (mkF m (pc + 1) L (.int (x.toInt32) :: S)) Φ) : own_Go p e below T (mkF m pc L (.long x :: S)) Φ := own_by (fun t k => XS.l2i h hx rfl hd rfl k) G
theorem own_s_i2b {p : Program} {e : Env} {below : List Frame} {T : State} {m : MethodId} {c : Code} {Φ : Outcome → State → Prop} {pc : Nat} {L : Array Slot} {S : List Value} (h : At T m c below) (hx : p.tables.exec = Jvm.exec) {x : Int32} (hd : decode c.code pc = .ok (.i2b, 1)) (G : own_Go p e below T (mkF m (pc + 1) L (.int (x.toInt8.toInt32) :: S)) Φ) : own_Go p e below T (mkF m pc L (.int x :: S)) Φ := own_by (fun t k => XS.i2b h hx rfl hd rfl k) G
theorem own_s_i2s {p : Program} {e : Env} {below : List Frame} {T : State} {m : MethodId} {c : Code} {Φ : Outcome → State → Prop} {pc : Nat} {L : Array Slot} {S : List Value} (h : At T m c below) (hx : p.tables.exec = Jvm.exec) {x : Int32} (hd : decode c.code pc = .ok (.i2s, 1)) (G : own_Go p e below T (mkF m (pc + 1) L (.int (x.toInt16.toInt32) :: S)) Φ) : own_Go p e below T (mkF m pc L (.int x :: S)) Φ := own_by (fun t k => XS.i2s h hx rfl hd rfl k) G
theorem own_s_i2c {p : Program} {e : Env} {below : List Frame} {T : State} {m : MethodId} {c : Code} {Φ : Outcome → State → Prop} {pc : Nat} {L : Array Slot} {S : List Value} (h : At T m c below) (hx : p.tables.exec = Jvm.exec) {x : Int32} (hd : decode c.code pc = .ok (.i2c, 1)) (G : own_Go p e below T (mkF m (pc + 1) L (.int (x.toUInt32.toUInt16.toUInt32.toInt32) :: S)) Φ) : own_Go p e below T (mkF m pc L (.int x :: S)) Φ := own_by (fun t k => XS.i2c h hx rfl hd rfl k) G
theorem own_s_iloadN {p : Program} {e : Env} {below : List Frame} {T : State} {m : MethodId} {c : Code} {Φ : Outcome → State → Prop} {pc : Nat} {L : Array Slot} {S : List Value} (h : At T m c below) (hx : p.tables.exec = Jvm.exec) {i : Fin 4} {v : Int32} (hd : decode c.code pc = .ok (.iload_n i, 1)) (hl : L[i.val]? = some (.val (.int v))) (G : own_Go p e below T (mkF m (pc + 1) L (.int v :: S)) Φ) : own_Go p e below T (mkF m pc L S) Φ := own_by (fun t k => XS.iloadN h hx rfl hd hl k) G
theorem own_s_iload {p : Program} {e : Env} {below : List Frame} {T : State} {m : MethodId} {c : Code} {Φ : Outcome → State → Prop} {pc : Nat} {L : Array Slot} {S : List Value} (h : At T m c below) (hx : p.tables.exec = Jvm.exec) {i : Nat} {v : Int32} (hd : decode c.code pc = .ok (.iload i, 2)) (hl : L[i]? = some (.val (.int v))) (G : own_Go p e below T (mkF m (pc + 2) L (.int v :: S)) Φ) : own_Go p e below T (mkF m pc L S) Φ := own_by (fun t k => XS.iload h hx rfl hd hl k) G
theorem own_s_lloadN {p : Program} {e : Env} {below : List Frame} {T : State} {m : MethodId} {c : Code} {Φ : Outcome → State → Prop} {pc : Nat} {L : Array Slot} {S : List Value} (h : At T m c below) (hx : p.tables.exec = Jvm.exec) {i : Fin 4} {v : Int64} (hd : decode c.code pc = .ok (.lload_n i, 1)) (hl : L[i.val]? = some (.val (.long v))) (G : own_Go p e below T (mkF m (pc + 1) L (.long v :: S)) Φ) : own_Go p e below T (mkF m pc L S) Φ := own_by (fun t k => XS.lloadN h hx rfl hd hl k) G
theorem own_s_lload {p : Program} {e : Env} {below : List Frame} {T : State} {m : MethodId} {c : Code} {Φ : Outcome → State → Prop} {pc : Nat} {L : Array Slot} {S : List Value} (h : At T m c below) (hx : p.tables.exec = Jvm.exec) {i : Nat} {v : Int64} (hd : decode c.code pc = .ok (.lload i, 2)) (hl : L[i]? = some (.val (.long v))) (G : own_Go p e below T (mkF m (pc + 2) L (.long v :: S)) Φ) : own_Go p e below T (mkF m pc L S) Φ := own_by (fun t k => XS.lload h hx rfl hd hl k) G
theorem own_s_aloadN {p : Program} {e : Env} {below : List Frame} {T : State} {m : MethodId} {c : Code} {Φ : Outcome → State → Prop} {pc : Nat} {L : Array Slot} {S : List Value} (h : At T m c below) (hx : p.tables.exec = Jvm.exec) {i : Fin 4} {v : Value} (hd : decode c.code pc = .ok (.aload_n i, 1)) (hl : L[i.val]? = some (.val v)) (hv : v.isRef = true) (G : own_Go p e below T (mkF m (pc + 1) L (v :: S)) Φ) : own_Go p e below T (mkF m pc L S) Φ := own_by (fun t k => XS.aloadN h hx rfl hd hl hv k) G
theorem own_s_aload {p : Program} {e : Env} {below : List Frame} {T : State} {m : MethodId} {c : Code} {Φ : Outcome → State → Prop} {pc : Nat} {L : Array Slot} {S : List Value} (h : At T m c below) (hx : p.tables.exec = Jvm.exec) {i : Nat} {v : Value} (hd : decode c.code pc = .ok (.aload i, 2)) (hl : L[i]? = some (.val v)) (hv : v.isRef = true) (G : own_Go p e below T (mkF m (pc + 2) L (v :: S)) Φ) : own_Go p e below T (mkF m pc L S) Φ := own_by (fun t k => XS.aload h hx rfl hd hl hv k) G
theorem own_s_istoreN {p : Program} {e : Env} {below : List Frame} {T : State} {m : MethodId} {c : Code} {Φ : Outcome → State → Prop} {pc : Nat} {L : Array Slot} {S : List Value} (h : At T m c below) (hx : p.tables.exec = Jvm.exec) {i : Fin 4} {v : Int32} (L' : Array Slot) (hd : decode c.code pc = .ok (.istore_n i, 1)) (hl : storeLocals L i.val (.int v) = some L') (G : own_Go p e below T (mkF m (pc + 1) L' S) Φ) : own_Go p e below T (mkF m pc L (.int v :: S)) Φ := own_by (fun t k => XS.istoreN h hx rfl hd rfl hl k) G
theorem own_s_istore {p : Program} {e : Env} {below : List Frame} {T : State} {m : MethodId} {c : Code} {Φ : Outcome → State → Prop} {pc : Nat} {L : Array Slot} {S : List Value} (h : At T m c below) (hx : p.tables.exec = Jvm.exec) {i : Nat} {v : Int32} (L' : Array Slot) (hd : decode c.code pc = .ok (.istore i, 2)) (hl : storeLocals L i (.int v) = some L') (G : own_Go p e below T (mkF m (pc + 2) L' S) Φ) : own_Go p e below T (mkF m pc L (.int v :: S)) Φ := own_by (fun t k => XS.istore h hx rfl hd rfl hl k) G
theorem own_s_lstoreN {p : Program} {e : Env} {below : List Frame} {T : State} {m : MethodId} {c : Code} {Φ : Outcome → State → Prop} {pc : Nat} {L : Array Slot} {S : List Value} (h : At T m c below) (hx : p.tables.exec = Jvm.exec) {i : Fin 4} {v : Int64} (L' : Array Slot) (hd : decode c.code pc = .ok (.lstore_n i, 1)) (hl : storeLocals L i.val (.long v) = some L') (G : own_Go p e below T (mkF m (pc + 1) L' S) Φ) : own_Go p e below T (mkF m pc L (.long v :: S)) Φ := own_by (fun t k => XS.lstoreN h hx rfl hd rfl hl k) G
theorem own_s_lstore {p : Program} {e : Env} {below : List Frame} {T : State} {m : MethodId} {c : Code} {Φ : Outcome → State → Prop} {pc : Nat} {L : Array Slot} {S : List Value} (h : At T m c below) (hx : p.tables.exec = Jvm.exec) {i : Nat} {v : Int64} (L' : Array Slot) (hd : decode c.code pc = .ok (.lstore i, 2)) (hl : storeLocals L i (.long v) = some L') (G : own_Go p e below T (mkF m (pc + 2) L' S) Φ) : own_Go p e below T (mkF m pc L (.long v :: S)) Φ := own_by (fun t k => XS.lstore h hx rfl hd rfl hl k) G
theorem own_s_astoreN {p : Program} {e : Env} {below : List Frame} {T : State} {m : MethodId} {c : Code} {Φ : Outcome → State → Prop} {pc : Nat} {L : Array Slot} {S : List Value} (h : At T m c below) (hx : p.tables.exec = Jvm.exec) {i : Fin 4} {v : Value} (L' : Array Slot) (hd : decode c.code pc = .ok (.astore_n i, 1)) (hv : v.isRef = true) (hl : storeLocals L i.val v = some L') (G : own_Go p e below T (mkF m (pc + 1) L' S) Φ) : own_Go p e below T (mkF m pc L (v :: S)) Φ := own_by (fun t k => XS.astoreN h hx rfl hd rfl hv hl k) G
theorem own_s_astore {p : Program} {e : Env} {below : List Frame} {T : State} {m : MethodId} {c : Code} {Φ : Outcome → State → Prop} {pc : Nat} {L : Array Slot} {S : List Value} (h : At T m c below) (hx : p.tables.exec = Jvm.exec) {i : Nat} {v : Value} (L' : Array Slot) (hd : decode c.code pc = .ok (.astore i, 2)) (hv : v.isRef = true) (hl : storeLocals L i v = some L') (G : own_Go p e below T (mkF m (pc + 2) L' S) Φ) : own_Go p e below T (mkF m pc L (v :: S)) Φ := own_by (fun t k => XS.astore h hx rfl hd rfl hv hl k) G
theorem own_s_iconst {p : Program} {e : Env} {below : List Frame} {T : State} {m : MethodId} {c : Code} {Φ : Outcome → State → Prop} {pc : Nat} {L : Array Slot} {S : List Value} (h : At T m c below) (hx : p.tables.exec = Jvm.exec) {i : Int} (v : Int32) (hd : decode c.code pc = .ok (.iconst i, 1)) (hv : Int32.ofInt i = v) (G : own_Go p e below T (mkF m (pc + 1) L (.int v :: S)) Φ) : own_Go p e below T (mkF m pc L S) Φ := own_by (fun t k => XS.iconst h hx rfl hd (by rw [hv]; exact k)) G
theorem own_s_bipush {p : Program} {e : Env} {below : List Frame} {T : State} {m : MethodId} {c : Code} {Φ : Outcome → State → Prop} {pc : Nat} {L : Array Slot} {S : List Value} (h : At T m c below) (hx : p.tables.exec = Jvm.exec) {i : Int} (v : Int32) (hd : decode c.code pc = .ok (.bipush i, 2)) (hv : (Int8.ofInt i).toInt32 = v) (G : own_Go p e below T (mkF m (pc + 2) L (.int v :: S)) Φ) : own_Go p e below T (mkF m pc L S) Φ := own_by (fun t k => XS.bipush h hx rfl hd (by rw [hv]; exact k)) G
theorem own_s_sipush {p : Program} {e : Env} {below : List Frame} {T : State} {m : MethodId} {c : Code} {Φ : Outcome → State → Prop} {pc : Nat} {L : Array Slot} {S : List Value} (h : At T m c below) (hx : p.tables.exec = Jvm.exec) {i : Int} (v : Int32) (hd : decode c.code pc = .ok (.sipush i, 3)) (hv : (Int16.ofInt i).toInt32 = v) (G : own_Go p e below T (mkF m (pc + 3) L (.int v :: S)) Φ) : own_Go p e below T (mkF m pc L S) Φ := own_by (fun t k => XS.sipush h hx rfl hd (by rw [hv]; exact k)) G
theorem own_s_lconst {p : Program} {e : Env} {below : List Frame} {T : State} {m : MethodId} {c : Code} {Φ : Outcome → State → Prop} {pc : Nat} {L : Array Slot} {S : List Value} (h : At T m c below) (hx : p.tables.exec = Jvm.exec) {i : Fin 2} (v : Int64) (hd : decode c.code pc = .ok (.lconst i, 1)) (hv : Int64.ofNat i = v) (G : own_Go p e below T (mkF m (pc + 1) L (.long v :: S)) Φ) : own_Go p e below T (mkF m pc L S) Φ := own_by (fun t k => XS.lconst h hx rfl hd (by rw [hv]; exact k)) G
theorem own_s_goto {p : Program} {e : Env} {below : List Frame} {T : State} {m : MethodId} {c : Code} {Φ : Outcome → State → Prop} {pc : Nat} {L : Array Slot} {S : List Value} (h : At T m c below) (hx : p.tables.exec = Jvm.exec) {o : Int} (pc' : Nat) (hd : decode c.code pc = .ok (.goto o, 3)) (ho : 0 ≤ (pc : Int) + o) (hp : ((pc : Int) + o).toNat = pc') (G : own_Go p e below T (mkF m pc' L S) Φ) : own_Go p e below T (mkF m pc L S) Φ := own_by (fun t k => XS.goto h hx rfl rfl hd ho hp k) G
theorem own_s_ifYes {p : Program} {e : Env} {below : List Frame} {T : State} {m : MethodId} {c : Code} {Φ : Outcome → State → Prop} {pc : Nat} {L : Array Slot} {S : List Value} (h : At T m c below) (hx : p.tables.exec = Jvm.exec) {cd : ClassFile.Cond} {x : Int32} {o : Int} (pc' : Nat) (hd : decode c.code pc = .ok (.ifCond cd o, 3)) (hc : ifCond.holds cd x = true) (ho : 0 ≤ (pc : Int) + o) (hp : ((pc : Int) + o).toNat = pc') (G : own_Go p e below T (mkF m pc' L S) Φ) : own_Go p e below T (mkF m pc L (.int x :: S)) Φ := own_by (fun t k => XS.ifYes h hx rfl rfl hd rfl hc ho hp k) G
theorem own_s_ifNo {p : Program} {e : Env} {below : List Frame} {T : State} {m : MethodId} {c : Code} {Φ : Outcome → State → Prop} {pc : Nat} {L : Array Slot} {S : List Value} (h : At T m c below) (hx : p.tables.exec = Jvm.exec) {cd : ClassFile.Cond} {x : Int32} {o : Int} (hd : decode c.code pc = .ok (.ifCond cd o, 3)) (hc : ifCond.holds cd x = false) (G : own_Go p e below T (mkF m (pc + 3) L S) Φ) : own_Go p e below T (mkF m pc L (.int x :: S)) Φ := own_by (fun t k => XS.ifNo h hx rfl hd rfl hc k) G
theorem own_s_icmpYes {p : Program} {e : Env} {below : List Frame} {T : State} {m : MethodId} {c : Code} {Φ : Outcome → State → Prop} {pc : Nat} {L : Array Slot} {S : List Value} (h : At T m c below) (hx : p.tables.exec = Jvm.exec) {cd : ClassFile.Cond} {x y : Int32} {o : Int} (pc' : Nat) (hd : decode c.code pc = .ok (.if_icmp cd o, 3)) (hc : if_icmp.holds cd x y = true) (ho : 0 ≤ (pc : Int) + o) (hp : ((pc : Int) + o).toNat = pc') (G : own_Go p e below T (mkF m pc' L S) Φ) : own_Go p e below T (mkF m pc L (.int y :: .int x :: S)) Φ := own_by (fun t k => XS.icmpYes h hx rfl rfl hd rfl hc ho hp k) G
theorem own_s_icmpNo {p : Program} {e : Env} {below : List Frame} {T : State} {m : MethodId} {c : Code} {Φ : Outcome → State → Prop} {pc : Nat} {L : Array Slot} {S : List Value} (h : At T m c below) (hx : p.tables.exec = Jvm.exec) {cd : ClassFile.Cond} {x y : Int32} {o : Int} (hd : decode c.code pc = .ok (.if_icmp cd o, 3)) (hc : if_icmp.holds cd x y = false) (G : own_Go p e below T (mkF m (pc + 3) L S) Φ) : own_Go p e below T (mkF m pc L (.int y :: .int x :: S)) Φ := own_by (fun t k => XS.icmpNo h hx rfl hd rfl hc k) G
theorem own_s_lcmp {p : Program} {e : Env} {below : List Frame} {T : State} {m : MethodId} {c : Code} {Φ : Outcome → State → Prop} {pc : Nat} {L : Array Slot} {S : List Value} (h : At T m c below) (hx : p.tables.exec = Jvm.exec) {x y : Int64} (hd : decode c.code pc = .ok (.lcmp, 1)) (G : own_Go p e below T (mkF m (pc + 1) L (.int (Jvm.Free.XT.cmpL x y) :: S)) Φ) : own_Go p e below T (mkF m pc L (.long y :: .long x :: S)) Φ := own_by (fun t k => Jvm.Free.XT.lcmp h hx rfl hd rfl k) G
theorem own_s_dup {p : Program} {e : Env} {below : List Frame} {T : State} {m : MethodId} {c : Code} {Φ : Outcome → State → Prop} {pc : Nat} {L : Array Slot} {S : List Value} (h : At T m c below) (hx : p.tables.exec = Jvm.exec) {x : Value} (hd : decode c.code pc = .ok (.dup, 1)) (hc : x.category = 1) (G : own_Go p e below T (mkF m (pc + 1) L (x :: x :: S)) Φ) : own_Go p e below T (mkF m pc L (x :: S)) Φ := own_by (fun t k => XS.dup h hx rfl hd rfl hc k) G
theorem own_s_pop {p : Program} {e : Env} {below : List Frame} {T : State} {m : MethodId} {c : Code} {Φ : Outcome → State → Prop} {pc : Nat} {L : Array Slot} {S : List Value} (h : At T m c below) (hx : p.tables.exec = Jvm.exec) {x : Value} (hd : decode c.code pc = .ok (.pop, 1)) (hc : x.category = 1) (G : own_Go p e below T (mkF m (pc + 1) L S) Φ) : own_Go p e below T (mkF m pc L (x :: S)) Φ := own_by (fun t k => XS.pop h hx rfl hd rfl hc k) G

def own_m1 (z : Int64) : Int64 := ((z ^^^ ((z.toUInt64 >>> ((30 : Int32) &&& 0x3f).toInt64.toUInt64).toInt64)) * (-4658895280553007687 : Int64))
def own_m2 (z : Int64) : Int64 := ((z ^^^ ((z.toUInt64 >>> ((27 : Int32) &&& 0x3f).toInt64.toUInt64).toInt64)) * (-7723592293110705685 : Int64))
def own_m3 (z : Int64) : Int64 := (z ^^^ ((z.toUInt64 >>> ((31 : Int32) &&& 0x3f).toInt64.toUInt64).toInt64))
def own_mix (z : Int64) : Int64 := own_m3 (own_m2 (own_m1 z))
def own_bits (z : Int64) : Int64 := (((own_mix z).toUInt64 >>> ((1 : Int32) &&& 0x3f).toInt64.toUInt64).toInt64)
def own_st (z : Int64) : Nat → Int64
  | 0 => z
  | k + 1 => own_st z k + (-7046029254386353131 : Int64)
def own_acc (z : Int64) (b : Int32) : Prop := ¬ (((own_bits z) - ((own_bits z) % (b.toInt64))) + ((b - (1 : Int32)).toInt64)) < (0 : Int64)
def own_first (z : Int64) (b : Int32) (k : Nat) : Prop := 1 ≤ k ∧ own_acc (own_st z k) b ∧ ∀ i, 1 ≤ i → i < k → ¬ own_acc (own_st z i) b
theorem own_st_shift (z : Int64) (k : Nat) : own_st (z + (-7046029254386353131 : Int64)) k = own_st z (k + 1) := by
  induction k with
  | zero => simp only [own_st]
  | succ k ih => show own_st (z + (-7046029254386353131 : Int64)) k + (-7046029254386353131 : Int64) = own_st z (k + 1) + (-7046029254386353131 : Int64); rw [ih]
theorem own_first_one {z : Int64} {b : Int32} (h : own_acc (own_st z 1) b) : own_first z b 1 := ⟨Nat.le_refl 1, h, fun i h1 h2 => absurd h2 (by omega)⟩
theorem own_first_next {z : Int64} {b : Int32} {k : Nat} (h : ¬ own_acc (own_st z 1) b) (hf : own_first (z + (-7046029254386353131 : Int64)) b k) : own_first z b (k + 1) := by
  refine ⟨by omega, ?_, fun i h1 h2 => ?_⟩
  · rw [← own_st_shift]; exact hf.2.1
  · by_cases q : i = 1
    · subst q; exact h
    · obtain ⟨j, rfl⟩ : ∃ j, i = j + 1 := ⟨i - 1, by omega⟩
      rw [← own_st_shift]
      exact hf.2.2 j (by omega) (by omega)
theorem own_st_eq (z : Int64) (k : Nat) : own_st z k = z + Int64.ofNat k * (-7046029254386353131 : Int64) := by
  induction k with
  | zero => show z = z + Int64.ofNat 0 * _; rw [show Int64.ofNat 0 = 0 from rfl, Int64.zero_mul, Int64.add_zero]
  | succ k ih => show own_st z k + _ = _; rw [ih, Int64.ofNat_add, Int64.add_mul, show Int64.ofNat 1 = 1 from rfl, Int64.one_mul, Int64.add_assoc]
theorem own_zero (z : Int64) : ∃ k : Nat, own_st z (k + 1) = 0 := by
  refine ⟨((-z) * (-1018231460777725123 : Int64)).toBitVec.toNat + (2 ^ 64 - 1), ?_⟩
  rw [own_st_eq]
  have e : Int64.ofNat (((-z) * (-1018231460777725123 : Int64)).toBitVec.toNat + (2 ^ 64 - 1) + 1) = (-z) * (-1018231460777725123 : Int64) := by
    apply Int64.toBitVec_inj.mp
    apply BitVec.eq_of_toNat_eq
    rw [Int64.toBitVec_ofNat']
    have hb := ((-z) * (-1018231460777725123 : Int64)).toBitVec.isLt
    simp only [BitVec.toNat_ofNat]
    omega
  rw [e, Int64.mul_assoc, show (-1018231460777725123 : Int64) * (-7046029254386353131 : Int64) = 1 from by decide +kernel, Int64.mul_one, Int64.add_right_neg]
theorem own_acc0 (b : Int32) (hb : 1 ≤ b.toInt) : own_acc 0 b := by
  unfold own_acc
  have e0 : own_bits 0 = 0 := by decide +kernel
  have c1 : (1 : Int32).toInt = 1 := by decide
  have hb2 := b.toInt_lt
  have e1 : ((b - (1 : Int32)).toInt64).toInt = b.toInt - 1 := by rw [Jvm.Kit.i64_of_i32, Jvm.Kit.i32_sub (by rw [c1]; omega) (by rw [c1]; omega), c1]
  have e2 : ((0 : Int64) % (b.toInt64)) = 0 := by
    apply Int64.toInt_inj.mp
    rw [Int64.toInt_mod, show (0 : Int64).toInt = 0 from by decide, Int.zero_tmod]
  rw [e0, e2, show (0 : Int64) - 0 = 0 from by decide, Int64.zero_add, Int64.lt_iff_toInt_lt, e1, show (0 : Int64).toInt = 0 from by decide]
  omega
theorem own_term (z : Int64) (b : Int32) (hb : 1 ≤ b.toInt) : ∃ k : Nat, own_acc (own_st z (k + 1)) b := by
  obtain ⟨k, hk⟩ := own_zero z
  exact ⟨k, by rw [hk]; exact own_acc0 b hb⟩
theorem own_nzb {b : Int32} (hb : 1 ≤ b.toInt) : (b.toInt64) ≠ 0 := fun q => by
  have e := Jvm.Kit.i64_of_i32 b
  rw [q, show (0 : Int64).toInt = 0 from by decide] at e
  omega
theorem own_d1_0 : decode prog_21_method_1_code 0 = .ok (.aload_n 0, 1) := by decide +kernel
theorem own_d1_1 : decode prog_21_method_1_code 1 = .ok (.invokespecial 1, 3) := by decide +kernel
theorem own_d1_4 : decode prog_21_method_1_code 4 = .ok (.aload_n 0, 1) := by decide +kernel
theorem own_d1_5 : decode prog_21_method_1_code 5 = .ok (.lload_n 1, 1) := by decide +kernel
theorem own_d1_6 : decode prog_21_method_1_code 6 = .ok (.putfield 7, 3) := by decide +kernel
theorem own_d1_9 : decode prog_21_method_1_code 9 = .ok (.return_, 1) := by decide +kernel
theorem own_pn_SeededDraws : plainName "com/example/tenderbook/tenderbook/clearing/SeededDraws" = true := by first | (simp [plainName, overriddenIn]; done) | decide +kernel
theorem own_ef1 (m : MethodId) (this : Addr) (q1 : Int64) : entryFrame m #[(.ref this), (.long q1)] 3 = mkF m 0 #[.val (.ref this), .val (.long q1), .second] [] := by first | (simp [entryFrame, mkF, argsToLocals, Value.category]; done) | rfl
def own_q_own_r1 (Z : State) (this : Addr) (q1 : Int64) (h0 : Heap) (n0 : Nat) (v : Option Value) (h : Heap) (L : List Loc) : Prop := v = none ∧ Fr n0 L ∧ Keep h0 h [this] ∧ Fld Z h this "com/example/tenderbook/tenderbook/clearing/SeededDraws" "state" "J" (.long q1)
set_option maxRecDepth 65536 in
set_option maxHeartbeats 40000000 in
theorem own_r1 (l : Launch) (Z : State) (a0 : Array Value) (hw : ∀ d ∈ tables_1, d.before a0 Z = true) (ws : List Jvm.Cond) (this : Addr) (q1 : Int64) (h0 : Heap) (n0 : Nat) (Z0 : n0 ≤ h0.size) (E_this : Exa Z h0 this "com/example/tenderbook/tenderbook/clearing/SeededDraws") (F_this_state : Fld Z h0 this "com/example/tenderbook/tenderbook/clearing/SeededDraws" "state" "J" (.long (0 : Int64))) (ge_this : n0 ≤ this) :
    MetFree l (⟨"com/example/tenderbook/tenderbook/clearing/SeededDraws", "<init>", "(J)V"⟩ : MethodName) (head1 (Jvm.Cond.code (⟨"com/example/tenderbook/tenderbook/clearing/SeededDraws", "<init>", "(J)V"⟩ : MethodName) prog_21_method_1_code 3 none :: ws) ({ frames := 1, cells := 0, slots := 0, locals := 12 } : Room)) (fun a U => a = #[(.ref this), (.long q1)] ∧ Z.Warmed39 U.vm ∧ U.heap = h0) (fun _ _ _ _ _ => True) (fun _ U o U' => ∃ v L, o = .returned v ∧ own_q_own_r1 Z this q1 h0 n0 v U'.heap L ∧ FrameEnd U o U' L ({ frames := 1, cells := 0, slots := 0, locals := 12 } : Room).cells ({ frames := 1, cells := 0, slots := 0, locals := 12 } : Room).slots) := by
  refine MetFree.of_bodySF (plainFor_of_name own_pn_SeededDraws) hisR ?_
  intro p e s m args below meth c T0 Bd hml0 hP hK
  obtain ⟨rfl, hZ, hh⟩ := hP
  have hx := Bd.exec
  have hby := Bd.bytes
  have hml : c.maxLocals = 3 := hml0
  have hown : s.vm.findClass "com/example/tenderbook/tenderbook/clearing/SeededDraws" = some m.cls := findClass_of_methodNamed Bd.named
  have hnm := (name_of_methodNamed Bd.named Bd.method).1
  have hret : meth.sig.returnType = none := Bd.returns
  have hlk : meth.locks = false := BodyLoose.notSynchronized Bd
  have X0 : Stand p l e ({ frames := 1, cells := 0, slots := 0, locals := 12 } : Room) s m #[(.ref this), (.long q1)] below meth c T0 [] 0 0 := Stand.of_body Bd
  have e0 : T0.heap = h0 := by rw [← hh, Bd.state]; rfl
  have N0 := Fr.nil n0
  refine own_start (own_ef1 m this q1) (Q := fun (v : Option Value) (h : Heap) (L : List Loc) => v = none ∧ Fr n0 L ∧ Keep h0 h [this] ∧ Fld Z h this "com/example/tenderbook/tenderbook/clearing/SeededDraws" "state" "J" (.long q1)) (k := 0) (j := 0) ?_
  show own_Go p e below T0 (mkF m 0 #[.val (.ref this), .val (.long q1), .second] []) _
  have K0 := Keep.refl h0 [this]
  refine own_s_aloadN X0.here hx (hb hby own_d1_0) rfl rfl ?_
  obtain ⟨T1, X1, e1, st1⟩ := initO X0 hx hZ hown (hw _ (List.mem_of_getElem? (i := 7) rfl)) (hw _ (List.mem_of_getElem? (i := 8) rfl)) (hw _ (List.mem_of_getElem? (i := 9) rfl)) e0 (g := (mkF m 1 #[.val (.ref this), .val (.long q1), .second] [(.ref this)])) rfl (by rw [hml]; rfl) rfl (hb hby own_d1_1) (by decide) (W := 0) (by show 2 * 0 + _ ≤ _; exact Nat.le_of_eq rfl) (by decide)
  refine own_by st1 ?_
  show own_Go p e below T1 (mkF m 4 #[.val (.ref this), .val (.long q1), .second] []) _
  refine own_s_aloadN X1.here hx (hb hby own_d1_4) rfl rfl ?_
  refine own_s_lloadN X1.here hx (hb hby own_d1_5) rfl ?_
  obtain ⟨T2, h2, X2, e2, W2, st2⟩ := putF X1 hx hZ hown (host := "") (Or.inl (hw _ (List.mem_of_getElem? (i := 10) rfl))) Via.refl e1 F_this_state E_this (Or.inl (hw _ (List.mem_of_getElem? (i := 11) rfl))) (hw _ (List.mem_of_getElem? (i := 2) rfl)) (ty := .long) (by decide) rfl rfl (g := (mkF m 6 #[.val (.ref this), .val (.long q1), .second] [(.long q1), (.ref this)])) rfl rfl (hb hby own_d1_6)
  have fw2 := F_this_state.same W2
  have f3 := E_this.wr W2
  have N2 := Fr.snoc X2 N0 ge_this
  have SZ2 : n0 ≤ h2.size := by rw [W2.size]; exact Z0
  have K2 := K0.wr W2 (Or.inl (List.mem_of_getElem? (i := 0) rfl))
  refine own_by st2 ?_
  show own_Go p e below T2 (mkF m 9 #[.val (.ref this), .val (.long q1), .second] []) _
  refine own_retV X2 hx hret hlk (hb hby own_d1_9) (by decide) (by decide) ?_
  rw [e2]
  exact ⟨rfl, N2, K2, fw2⟩
theorem own_d4_0 : decode prog_21_method_4_code 0 = .ok (.aload_n 0, 1) := by decide +kernel
theorem own_d4_1 : decode prog_21_method_4_code 1 = .ok (.dup, 1) := by decide +kernel
theorem own_d4_2 : decode prog_21_method_4_code 2 = .ok (.getfield 7, 3) := by decide +kernel
theorem own_d4_5 : decode prog_21_method_4_code 5 = .ok (.ldc2_w 27, 3) := by decide +kernel
theorem own_d4_8 : decode prog_21_method_4_code 8 = .ok (.ladd, 1) := by decide +kernel
theorem own_d4_9 : decode prog_21_method_4_code 9 = .ok (.putfield 7, 3) := by decide +kernel
theorem own_d4_12 : decode prog_21_method_4_code 12 = .ok (.aload_n 0, 1) := by decide +kernel
theorem own_d4_13 : decode prog_21_method_4_code 13 = .ok (.getfield 7, 3) := by decide +kernel
theorem own_d4_16 : decode prog_21_method_4_code 16 = .ok (.aload_n 0, 1) := by decide +kernel
theorem own_d4_17 : decode prog_21_method_4_code 17 = .ok (.getfield 7, 3) := by decide +kernel
theorem own_d4_20 : decode prog_21_method_4_code 20 = .ok (.bipush 30, 2) := by decide +kernel
theorem own_d4_22 : decode prog_21_method_4_code 22 = .ok (.lushr, 1) := by decide +kernel
theorem own_d4_23 : decode prog_21_method_4_code 23 = .ok (.lxor, 1) := by decide +kernel
theorem own_d4_24 : decode prog_21_method_4_code 24 = .ok (.ldc2_w 29, 3) := by decide +kernel
theorem own_d4_27 : decode prog_21_method_4_code 27 = .ok (.lmul, 1) := by decide +kernel
theorem own_d4_28 : decode prog_21_method_4_code 28 = .ok (.lstore_n 1, 1) := by decide +kernel
theorem own_d4_29 : decode prog_21_method_4_code 29 = .ok (.lload_n 1, 1) := by decide +kernel
theorem own_d4_30 : decode prog_21_method_4_code 30 = .ok (.lload_n 1, 1) := by decide +kernel
theorem own_d4_31 : decode prog_21_method_4_code 31 = .ok (.bipush 27, 2) := by decide +kernel
theorem own_d4_33 : decode prog_21_method_4_code 33 = .ok (.lushr, 1) := by decide +kernel
theorem own_d4_34 : decode prog_21_method_4_code 34 = .ok (.lxor, 1) := by decide +kernel
theorem own_d4_35 : decode prog_21_method_4_code 35 = .ok (.ldc2_w 31, 3) := by decide +kernel
theorem own_d4_38 : decode prog_21_method_4_code 38 = .ok (.lmul, 1) := by decide +kernel
theorem own_d4_39 : decode prog_21_method_4_code 39 = .ok (.lstore_n 1, 1) := by decide +kernel
theorem own_d4_40 : decode prog_21_method_4_code 40 = .ok (.lload_n 1, 1) := by decide +kernel
theorem own_d4_41 : decode prog_21_method_4_code 41 = .ok (.lload_n 1, 1) := by decide +kernel
theorem own_d4_42 : decode prog_21_method_4_code 42 = .ok (.bipush 31, 2) := by decide +kernel
theorem own_d4_44 : decode prog_21_method_4_code 44 = .ok (.lushr, 1) := by decide +kernel
theorem own_d4_45 : decode prog_21_method_4_code 45 = .ok (.lxor, 1) := by decide +kernel
theorem own_d4_46 : decode prog_21_method_4_code 46 = .ok (.lreturn, 1) := by decide +kernel
theorem own_ef4 (m : MethodId) (this : Addr) : entryFrame m #[(.ref this)] 3 = mkF m 0 #[.val (.ref this), .unset, .unset] [] := by first | (simp [entryFrame, mkF, argsToLocals, Value.category]; done) | rfl
def own_q_own_r4 (Z : State) (this : Addr) (z : Int64) (h0 : Heap) (n0 : Nat) (v : Option Value) (h : Heap) (L : List Loc) : Prop := v = some (.long (own_mix (z + (-7046029254386353131 : Int64)))) ∧ Fr n0 L ∧ Keep h0 h [this] ∧ Fld Z h this "com/example/tenderbook/tenderbook/clearing/SeededDraws" "state" "J" (.long (z + (-7046029254386353131 : Int64)))
set_option maxRecDepth 65536 in
set_option maxHeartbeats 40000000 in
theorem own_r4 (l : Launch) (Z : State) (a0 : Array Value) (hw : ∀ d ∈ tables_1, d.before a0 Z = true) (ws : List Jvm.Cond) (this : Addr) (z : Int64) (h0 : Heap) (n0 : Nat) (Z0 : n0 ≤ h0.size) (E_this : Exa Z h0 this "com/example/tenderbook/tenderbook/clearing/SeededDraws") (F_this_state : Fld Z h0 this "com/example/tenderbook/tenderbook/clearing/SeededDraws" "state" "J" (.long z)) (ge_this : n0 ≤ this) :
    MetFree l (⟨"com/example/tenderbook/tenderbook/clearing/SeededDraws", "nextLong", "()J"⟩ : MethodName) (head1 (Jvm.Cond.code (⟨"com/example/tenderbook/tenderbook/clearing/SeededDraws", "nextLong", "()J"⟩ : MethodName) prog_21_method_4_code 3 (some .long) :: ws) ({ frames := 0, cells := 0, slots := 0, locals := 0 } : Room)) (fun a U => a = #[(.ref this)] ∧ Z.Warmed39 U.vm ∧ U.heap = h0) (fun _ _ _ _ _ => True) (fun _ U o U' => ∃ v L, o = .returned v ∧ own_q_own_r4 Z this z h0 n0 v U'.heap L ∧ FrameEnd U o U' L ({ frames := 0, cells := 0, slots := 0, locals := 0 } : Room).cells ({ frames := 0, cells := 0, slots := 0, locals := 0 } : Room).slots) := by
  refine MetFree.of_bodySF (plainFor_of_name own_pn_SeededDraws) hisR ?_
  intro p e s m args below meth c T0 Bd hml0 hP hK
  obtain ⟨rfl, hZ, hh⟩ := hP
  have hx := Bd.exec
  have hby := Bd.bytes
  have hml : c.maxLocals = 3 := hml0
  have hown : s.vm.findClass "com/example/tenderbook/tenderbook/clearing/SeededDraws" = some m.cls := findClass_of_methodNamed Bd.named
  have hnm := (name_of_methodNamed Bd.named Bd.method).1
  have hret : meth.sig.returnType = (some .long) := Bd.returns
  have hlk : meth.locks = false := BodyLoose.notSynchronized Bd
  have X0 : Stand p l e ({ frames := 0, cells := 0, slots := 0, locals := 0 } : Room) s m #[(.ref this)] below meth c T0 [] 0 0 := Stand.of_body Bd
  have e0 : T0.heap = h0 := by rw [← hh, Bd.state]; rfl
  have N0 := Fr.nil n0
  refine own_start (own_ef4 m this) (Q := fun (v : Option Value) (h : Heap) (L : List Loc) => v = some (.long (own_mix (z + (-7046029254386353131 : Int64)))) ∧ Fr n0 L ∧ Keep h0 h [this] ∧ Fld Z h this "com/example/tenderbook/tenderbook/clearing/SeededDraws" "state" "J" (.long (z + (-7046029254386353131 : Int64)))) (k := 0) (j := 0) ?_
  show own_Go p e below T0 (mkF m 0 #[.val (.ref this), .unset, .unset] []) _
  have K0 := Keep.refl h0 [this]
  refine own_s_aloadN X0.here hx (hb hby own_d4_0) rfl rfl ?_
  refine own_s_dup X0.here hx (hb hby own_d4_1) rfl ?_
  obtain ⟨T4, X4, e4, st4⟩ := getF X0 hx hZ hown (host := "") (Or.inl (hw _ (List.mem_of_getElem? (i := 10) rfl))) Via.refl e0 F_this_state (g := (mkF m 2 #[.val (.ref this), .unset, .unset] [(.ref this), (.ref this)])) rfl rfl (hb hby own_d4_2)
  refine own_by st4 ?_
  show own_Go p e below T4 (mkF m 5 #[.val (.ref this), .unset, .unset] [(.long z), (.ref this)]) _
  refine own_by (fun tq_ kq_ => X4.ldc2Long hx hown (mvT hZ (hw _ (List.mem_of_getElem? (i := 22) rfl))) (g := (mkF m 5 #[.val (.ref this), .unset, .unset] [(.long z), (.ref this)])) rfl (hb hby own_d4_5) tq_ kq_) ?_
  show own_Go p e below T4 (mkF m 8 #[.val (.ref this), .unset, .unset] [(.long (-7046029254386353131 : Int64)), (.long z), (.ref this)]) _
  refine own_s_ladd X4.here hx (hb hby own_d4_8) ?_
  obtain ⟨T5, h5, X5, e5, W5, st5⟩ := putF X4 hx hZ hown (host := "") (Or.inl (hw _ (List.mem_of_getElem? (i := 10) rfl))) Via.refl e4 F_this_state E_this (Or.inl (hw _ (List.mem_of_getElem? (i := 11) rfl))) (hw _ (List.mem_of_getElem? (i := 2) rfl)) (ty := .long) (by decide) rfl rfl (g := (mkF m 9 #[.val (.ref this), .unset, .unset] [(.long (z + (-7046029254386353131 : Int64))), (.ref this)])) rfl rfl (hb hby own_d4_9)
  have fw5 := F_this_state.same W5
  have f6 := E_this.wr W5
  have N5 := Fr.snoc X5 N0 ge_this
  have SZ5 : n0 ≤ h5.size := by rw [W5.size]; exact Z0
  have K5 := K0.wr W5 (Or.inl (List.mem_of_getElem? (i := 0) rfl))
  refine own_by st5 ?_
  show own_Go p e below T5 (mkF m 12 #[.val (.ref this), .unset, .unset] []) _
  refine own_s_aloadN X5.here hx (hb hby own_d4_12) rfl rfl ?_
  obtain ⟨T7, X7, e7, st7⟩ := getF X5 hx hZ hown (host := "") (Or.inl (hw _ (List.mem_of_getElem? (i := 10) rfl))) Via.refl e5 fw5 (g := (mkF m 13 #[.val (.ref this), .unset, .unset] [(.ref this)])) rfl rfl (hb hby own_d4_13)
  refine own_by st7 ?_
  show own_Go p e below T7 (mkF m 16 #[.val (.ref this), .unset, .unset] [(.long (z + (-7046029254386353131 : Int64)))]) _
  refine own_s_aloadN X7.here hx (hb hby own_d4_16) rfl rfl ?_
  obtain ⟨T8, X8, e8, st8⟩ := getF X7 hx hZ hown (host := "") (Or.inl (hw _ (List.mem_of_getElem? (i := 10) rfl))) Via.refl e7 fw5 (g := (mkF m 17 #[.val (.ref this), .unset, .unset] [(.ref this), (.long (z + (-7046029254386353131 : Int64)))])) rfl rfl (hb hby own_d4_17)
  refine own_by st8 ?_
  show own_Go p e below T8 (mkF m 20 #[.val (.ref this), .unset, .unset] [(.long (z + (-7046029254386353131 : Int64))), (.long (z + (-7046029254386353131 : Int64)))]) _
  refine own_s_bipush X8.here hx (30 : Int32) (hb hby own_d4_20) rfl ?_
  refine own_s_lushr X8.here hx (hb hby own_d4_22) ?_
  refine own_s_lxor X8.here hx (hb hby own_d4_23) ?_
  refine own_by (fun tq_ kq_ => X8.ldc2Long hx hown (mvT hZ (hw _ (List.mem_of_getElem? (i := 23) rfl))) (g := (mkF m 24 #[.val (.ref this), .unset, .unset] [(.long ((z + (-7046029254386353131 : Int64)) ^^^ (((z + (-7046029254386353131 : Int64)).toUInt64 >>> ((30 : Int32) &&& 0x3f).toInt64.toUInt64).toInt64)))])) rfl (hb hby own_d4_24) tq_ kq_) ?_
  show own_Go p e below T8 (mkF m 27 #[.val (.ref this), .unset, .unset] [(.long (-4658895280553007687 : Int64)), (.long ((z + (-7046029254386353131 : Int64)) ^^^ (((z + (-7046029254386353131 : Int64)).toUInt64 >>> ((30 : Int32) &&& 0x3f).toInt64.toUInt64).toInt64)))]) _
  refine own_s_lmul X8.here hx (hb hby own_d4_27) ?_
  show own_Go p e below T8 (mkF m 28 #[.val (.ref this), .unset, .unset] [(.long (own_m1 (z + (-7046029254386353131 : Int64))))]) _
  refine own_s_lstoreN X8.here hx #[.val (.ref this), .val (.long (own_m1 (z + (-7046029254386353131 : Int64)))), .second] (hb hby own_d4_28) rfl ?_
  refine own_s_lloadN X8.here hx (hb hby own_d4_29) rfl ?_
  refine own_s_lloadN X8.here hx (hb hby own_d4_30) rfl ?_
  refine own_s_bipush X8.here hx (27 : Int32) (hb hby own_d4_31) rfl ?_
  refine own_s_lushr X8.here hx (hb hby own_d4_33) ?_
  refine own_s_lxor X8.here hx (hb hby own_d4_34) ?_
  refine own_by (fun tq_ kq_ => X8.ldc2Long hx hown (mvT hZ (hw _ (List.mem_of_getElem? (i := 24) rfl))) (g := (mkF m 35 #[.val (.ref this), .val (.long (own_m1 (z + (-7046029254386353131 : Int64)))), .second] [(.long ((own_m1 (z + (-7046029254386353131 : Int64))) ^^^ (((own_m1 (z + (-7046029254386353131 : Int64))).toUInt64 >>> ((27 : Int32) &&& 0x3f).toInt64.toUInt64).toInt64)))])) rfl (hb hby own_d4_35) tq_ kq_) ?_
  show own_Go p e below T8 (mkF m 38 #[.val (.ref this), .val (.long (own_m1 (z + (-7046029254386353131 : Int64)))), .second] [(.long (-7723592293110705685 : Int64)), (.long ((own_m1 (z + (-7046029254386353131 : Int64))) ^^^ (((own_m1 (z + (-7046029254386353131 : Int64))).toUInt64 >>> ((27 : Int32) &&& 0x3f).toInt64.toUInt64).toInt64)))]) _
  refine own_s_lmul X8.here hx (hb hby own_d4_38) ?_
  show own_Go p e below T8 (mkF m 39 #[.val (.ref this), .val (.long (own_m1 (z + (-7046029254386353131 : Int64)))), .second] [(.long (own_m2 (own_m1 (z + (-7046029254386353131 : Int64)))))]) _
  refine own_s_lstoreN X8.here hx #[.val (.ref this), .val (.long (own_m2 (own_m1 (z + (-7046029254386353131 : Int64))))), .second] (hb hby own_d4_39) rfl ?_
  refine own_s_lloadN X8.here hx (hb hby own_d4_40) rfl ?_
  refine own_s_lloadN X8.here hx (hb hby own_d4_41) rfl ?_
  refine own_s_bipush X8.here hx (31 : Int32) (hb hby own_d4_42) rfl ?_
  refine own_s_lushr X8.here hx (hb hby own_d4_44) ?_
  refine own_s_lxor X8.here hx (hb hby own_d4_45) ?_
  show own_Go p e below T8 (mkF m 46 #[.val (.ref this), .val (.long (own_m2 (own_m1 (z + (-7046029254386353131 : Int64))))), .second] [(.long (own_mix (z + (-7046029254386353131 : Int64))))]) _
  refine own_retJ X8 hx hret hlk (hb hby own_d4_46) (by decide) (by decide) ?_
  rw [e8]
  exact ⟨rfl, N5, K5, fw5⟩
theorem own_d3_0 : decode prog_21_method_3_code 0 = .ok (.aload_n 0, 1) := by decide +kernel
theorem own_d3_1 : decode prog_21_method_3_code 1 = .ok (.invokevirtual 23, 3) := by decide +kernel
theorem own_d3_4 : decode prog_21_method_3_code 4 = .ok (.iconst 1, 1) := by decide +kernel
theorem own_d3_5 : decode prog_21_method_3_code 5 = .ok (.lushr, 1) := by decide +kernel
theorem own_d3_6 : decode prog_21_method_3_code 6 = .ok (.lstore_n 2, 1) := by decide +kernel
theorem own_d3_7 : decode prog_21_method_3_code 7 = .ok (.lload_n 2, 1) := by decide +kernel
theorem own_d3_8 : decode prog_21_method_3_code 8 = .ok (.iload_n 1, 1) := by decide +kernel
theorem own_d3_9 : decode prog_21_method_3_code 9 = .ok (.i2l, 1) := by decide +kernel
theorem own_d3_10 : decode prog_21_method_3_code 10 = .ok (.lrem, 1) := by decide +kernel
theorem own_d3_11 : decode prog_21_method_3_code 11 = .ok (.lstore 4, 2) := by decide +kernel
theorem own_d3_13 : decode prog_21_method_3_code 13 = .ok (.lload_n 2, 1) := by decide +kernel
theorem own_d3_14 : decode prog_21_method_3_code 14 = .ok (.lload 4, 2) := by decide +kernel
theorem own_d3_16 : decode prog_21_method_3_code 16 = .ok (.lsub, 1) := by decide +kernel
theorem own_d3_17 : decode prog_21_method_3_code 17 = .ok (.iload_n 1, 1) := by decide +kernel
theorem own_d3_18 : decode prog_21_method_3_code 18 = .ok (.iconst 1, 1) := by decide +kernel
theorem own_d3_19 : decode prog_21_method_3_code 19 = .ok (.isub, 1) := by decide +kernel
theorem own_d3_20 : decode prog_21_method_3_code 20 = .ok (.i2l, 1) := by decide +kernel
theorem own_d3_21 : decode prog_21_method_3_code 21 = .ok (.ladd, 1) := by decide +kernel
theorem own_d3_22 : decode prog_21_method_3_code 22 = .ok (.lconst 0, 1) := by decide +kernel
theorem own_d3_23 : decode prog_21_method_3_code 23 = .ok (.lcmp, 1) := by decide +kernel
theorem own_d3_24 : decode prog_21_method_3_code 24 = .ok (.ifCond .lt (-24), 3) := by decide +kernel
theorem own_d3_27 : decode prog_21_method_3_code 27 = .ok (.lload 4, 2) := by decide +kernel
theorem own_d3_29 : decode prog_21_method_3_code 29 = .ok (.l2i, 1) := by decide +kernel
theorem own_d3_30 : decode prog_21_method_3_code 30 = .ok (.ireturn, 1) := by decide +kernel
theorem own_pd_3 : parseMethodDescriptor "()J" = some ⟨[], some .long⟩ := by decide +kernel
set_option maxRecDepth 65536 in
set_option maxHeartbeats 40000000 in
theorem own_turn {p : Program} {l : Launch} {e : Env} {s : State} {m : MethodId} {args : Array Value} {below : List Frame} {meth : Method} {c : Code} {Z : State} {a0 : Array Value} {n0 : Nat} (hx : p.tables.exec = Jvm.exec) (hZ : Z.Warmed39 s.vm) (hw : ∀ d ∈ tables_1, d.before a0 Z = true) (hby : c.code = prog_21_method_3_code) (hml : c.maxLocals = 6) (hown : s.vm.findClass "com/example/tenderbook/tenderbook/clearing/SeededDraws" = some m.cls) (hnm : meth.name = "nextBelow") (hret : meth.sig.returnType = (some .int)) (hlk : meth.locks = false) (hs : Heap) (this : Addr) (b : Int32) (z : Int64) (b0 v0 : Int64) {T0 : State} {locs : List Loc} {h0 : Heap} (X0 : Stand p l e ({ frames := 1, cells := 0, slots := 0, locals := 14 } : Room) s m args below meth c T0 locs 0 0) (e0 : T0.heap = h0) (N0 : Fr n0 locs) (Z0 : n0 ≤ h0.size) (E_this : Exa Z h0 this "com/example/tenderbook/tenderbook/clearing/SeededDraws") (F_this : Fld Z h0 this "com/example/tenderbook/tenderbook/clearing/SeededDraws" "state" "J" (.long z)) (ge_this : n0 ≤ this) (K0 : Keep hs h0 [this]) (hb1 : 1 ≤ b.toInt) (hnext : ¬ own_acc (own_st z 1) b → ∀ (T1 : State) (locs1 : List Loc) (b1 v1 : Int64), Stand p l e ({ frames := 1, cells := 0, slots := 0, locals := 14 } : Room) s m args below meth c T1 locs1 0 0 → Fr n0 locs1 → n0 ≤ T1.heap.size → Exa Z T1.heap this "com/example/tenderbook/tenderbook/clearing/SeededDraws" → Fld Z T1.heap this "com/example/tenderbook/tenderbook/clearing/SeededDraws" "state" "J" (.long (own_st z 1)) → Keep hs T1.heap [this] → own_Go p e below T1 (mkF m 0 #[.val (.ref this), .val (.int b), .val (.long b1), .second, .val (.long v1), .second] []) (own_Fin s (fun (v : Option Value) (h : Heap) (L : List Loc) => ∃ k : Nat, own_first z b k ∧ v = some (.int (((own_bits (own_st z k)) % (b.toInt64)).toInt32)) ∧ Fr n0 L ∧ Keep hs h [this] ∧ Fld Z h this "com/example/tenderbook/tenderbook/clearing/SeededDraws" "state" "J" (.long (own_st z k))) 0 0)) :
    own_Go p e below T0 (mkF m 0 #[.val (.ref this), .val (.int b), .val (.long b0), .second, .val (.long v0), .second] []) (own_Fin s (fun (v : Option Value) (h : Heap) (L : List Loc) => ∃ k : Nat, own_first z b k ∧ v = some (.int (((own_bits (own_st z k)) % (b.toInt64)).toInt32)) ∧ Fr n0 L ∧ Keep hs h [this] ∧ Fld Z h this "com/example/tenderbook/tenderbook/clearing/SeededDraws" "state" "J" (.long (own_st z k))) 0 0) := by
  show own_Go p e below T0 (mkF m 0 #[.val (.ref this), .val (.int b), .val (.long b0), .second, .val (.long v0), .second] []) _
  refine own_s_aloadN X0.here hx (hb hby own_d3_0) rfl rfl ?_
  obtain ⟨cq9, kq9, q9a, q9b, q9c⟩ := isOf hZ e0 E_this
  obtain ⟨_, _, ⟨T9, L9, k9, n9⟩, -, X9, ⟨Lc9, hQ9, l9, y9, z9⟩, st9⟩ := X0.virtualBack hx (y := (⟨"com/example/tenderbook/tenderbook/clearing/SeededDraws", "nextLong", "()J"⟩ : MethodName)) (z := (⟨"com/example/tenderbook/tenderbook/clearing/SeededDraws", "nextLong", "()J"⟩ : MethodName)) hown (mvT hZ (hw _ (List.mem_of_getElem? (i := 17) rfl))) (mvT hZ (hw _ (List.mem_of_getElem? (i := 18) rfl))) (notFace_of_selects (args := #[]) (mvT hZ (hw _ (List.mem_of_getElem? (i := 20) rfl)))) (mvT hZ (hw _ (List.mem_of_getElem? (i := 20) rfl))) (mvT hZ (hw _ (List.mem_of_getElem? (i := 19) rfl))) (by decide) (backOf (W := 0) (own_r4 l Z a0 hw [] this z h0 n0 Z0 E_this F_this ge_this) hZ (hw _ (List.mem_of_getElem? (i := 21) rfl)) (hw _ (List.mem_of_getElem? (i := 3) rfl)) (by decide) (by decide)) q9a q9c (g := (mkF m 1 #[.val (.ref this), .val (.int b), .val (.long b0), .second, .val (.long v0), .second] [(.ref this)])) rfl (by rw [hml]; rfl) (Steps.refl _) (argsL := []) (rest := []) (lenOf own_pd_3 rfl) rfl (by show 2 * 0 + _ ≤ _; exact Nat.le_of_eq rfl) (hb hby own_d3_1) (fun _ _ => ⟨rfl, e0, (by decide : 0 + 0 ≤ _), (by decide : 0 + 0 ≤ _)⟩)
  dsimp only [Pt.U, Pt.locs, Pt.cells, Pt.slots] at X9 l9 y9 z9 st9 hQ9
  subst l9 y9 z9
  obtain ⟨rfl, N9q, K9, fs9⟩ := hQ9
  have N9 := Fr.app N0 N9q
  have f10 := E_this.keep K9
  have SZ9 : n0 ≤ T9.heap.size := Nat.le_trans Z0 K9.1
  have KC9 := K0.trans K9 (allS (Or.inl (List.mem_of_getElem? (i := 0) rfl)) all0)
  refine own_by (fun t k => st9.trans k) ?_
  show own_Go p e below T9 (mkF m 4 #[.val (.ref this), .val (.int b), .val (.long b0), .second, .val (.long v0), .second] [(.long (own_mix (own_st z 1)))]) _
  refine own_s_iconst X9.here hx (1 : Int32) (hb hby own_d3_4) rfl ?_
  refine own_s_lushr X9.here hx (hb hby own_d3_5) ?_
  show own_Go p e below T9 (mkF m 6 #[.val (.ref this), .val (.int b), .val (.long b0), .second, .val (.long v0), .second] [(.long (own_bits (own_st z 1)))]) _
  refine own_s_lstoreN X9.here hx #[.val (.ref this), .val (.int b), .val (.long (own_bits (own_st z 1))), .second, .val (.long v0), .second] (hb hby own_d3_6) rfl ?_
  refine own_s_lloadN X9.here hx (hb hby own_d3_7) rfl ?_
  refine own_s_iloadN X9.here hx (hb hby own_d3_8) rfl ?_
  refine own_s_i2l X9.here hx (hb hby own_d3_9) ?_
  refine own_by (fun tq_ kq_ => own_lrem X9 hx rfl (hb hby own_d3_10) rfl (own_nzb hb1) kq_) ?_
  show own_Go p e below T9 (mkF m 11 #[.val (.ref this), .val (.int b), .val (.long (own_bits (own_st z 1))), .second, .val (.long v0), .second] [(.long ((own_bits (own_st z 1)) % (b.toInt64)))]) _
  refine own_s_lstore X9.here hx #[.val (.ref this), .val (.int b), .val (.long (own_bits (own_st z 1))), .second, .val (.long ((own_bits (own_st z 1)) % (b.toInt64))), .second] (hb hby own_d3_11) rfl ?_
  refine own_s_lloadN X9.here hx (hb hby own_d3_13) rfl ?_
  refine own_s_lload X9.here hx (hb hby own_d3_14) rfl ?_
  refine own_s_lsub X9.here hx (hb hby own_d3_16) ?_
  refine own_s_iloadN X9.here hx (hb hby own_d3_17) rfl ?_
  refine own_s_iconst X9.here hx (1 : Int32) (hb hby own_d3_18) rfl ?_
  refine own_s_isub X9.here hx (hb hby own_d3_19) ?_
  refine own_s_i2l X9.here hx (hb hby own_d3_20) ?_
  refine own_s_ladd X9.here hx (hb hby own_d3_21) ?_
  refine own_s_lconst X9.here hx (0 : Int64) (hb hby own_d3_22) rfl ?_
  refine own_s_lcmp X9.here hx (hb hby own_d3_23) ?_
  by_cases hc24 : own_acc (own_st z 1) b
  ·
    refine own_s_ifNo X9.here hx (hb hby own_d3_24) (Jvm.Free.XT.ll_lt_f hc24) ?_
    show own_Go p e below T9 (mkF m 27 #[.val (.ref this), .val (.int b), .val (.long (own_bits (own_st z 1))), .second, .val (.long ((own_bits (own_st z 1)) % (b.toInt64))), .second] []) _
    refine own_s_lload X9.here hx (hb hby own_d3_27) rfl ?_
    refine own_s_l2i X9.here hx (hb hby own_d3_29) ?_
    refine own_retI X9 hx hret hlk (hb hby own_d3_30) (by decide) (by decide) ?_
    exact ⟨1, own_first_one hc24, rfl, N9, KC9, fs9⟩
  ·
    show own_Go p e below T9 (mkF m 24 #[.val (.ref this), .val (.int b), .val (.long (own_bits (own_st z 1))), .second, .val (.long ((own_bits (own_st z 1)) % (b.toInt64))), .second] [(.int (Jvm.Free.XT.cmpL (((own_bits (own_st z 1)) - ((own_bits (own_st z 1)) % (b.toInt64))) + ((b - (1 : Int32)).toInt64)) (0 : Int64)))]) _
    refine own_s_ifYes X9.here hx 0 (hb hby own_d3_24) (Jvm.Free.XT.ll_lt_t ((Classical.not_not.mp hc24))) (by decide) (by decide) ?_
    exact hnext hc24 _ _ _ _ X9 N9 SZ9 f10 fs9 KC9
set_option maxRecDepth 65536 in
set_option maxHeartbeats 40000000 in
theorem own_turn0 {p : Program} {l : Launch} {e : Env} {s : State} {m : MethodId} {args : Array Value} {below : List Frame} {meth : Method} {c : Code} {Z : State} {a0 : Array Value} {n0 : Nat} (hx : p.tables.exec = Jvm.exec) (hZ : Z.Warmed39 s.vm) (hw : ∀ d ∈ tables_1, d.before a0 Z = true) (hby : c.code = prog_21_method_3_code) (hml : c.maxLocals = 6) (hown : s.vm.findClass "com/example/tenderbook/tenderbook/clearing/SeededDraws" = some m.cls) (hnm : meth.name = "nextBelow") (hret : meth.sig.returnType = (some .int)) (hlk : meth.locks = false) (hs : Heap) (this : Addr) (b : Int32) (z : Int64) {T0 : State} {locs : List Loc} {h0 : Heap} (X0 : Stand p l e ({ frames := 1, cells := 0, slots := 0, locals := 14 } : Room) s m args below meth c T0 locs 0 0) (e0 : T0.heap = h0) (N0 : Fr n0 locs) (Z0 : n0 ≤ h0.size) (E_this : Exa Z h0 this "com/example/tenderbook/tenderbook/clearing/SeededDraws") (F_this : Fld Z h0 this "com/example/tenderbook/tenderbook/clearing/SeededDraws" "state" "J" (.long z)) (ge_this : n0 ≤ this) (K0 : Keep hs h0 [this]) (hb1 : 1 ≤ b.toInt) (hnext : ¬ own_acc (own_st z 1) b → ∀ (T1 : State) (locs1 : List Loc) (b1 v1 : Int64), Stand p l e ({ frames := 1, cells := 0, slots := 0, locals := 14 } : Room) s m args below meth c T1 locs1 0 0 → Fr n0 locs1 → n0 ≤ T1.heap.size → Exa Z T1.heap this "com/example/tenderbook/tenderbook/clearing/SeededDraws" → Fld Z T1.heap this "com/example/tenderbook/tenderbook/clearing/SeededDraws" "state" "J" (.long (own_st z 1)) → Keep hs T1.heap [this] → own_Go p e below T1 (mkF m 0 #[.val (.ref this), .val (.int b), .val (.long b1), .second, .val (.long v1), .second] []) (own_Fin s (fun (v : Option Value) (h : Heap) (L : List Loc) => ∃ k : Nat, own_first z b k ∧ v = some (.int (((own_bits (own_st z k)) % (b.toInt64)).toInt32)) ∧ Fr n0 L ∧ Keep hs h [this] ∧ Fld Z h this "com/example/tenderbook/tenderbook/clearing/SeededDraws" "state" "J" (.long (own_st z k))) 0 0)) :
    own_Go p e below T0 (mkF m 0 #[.val (.ref this), .val (.int b), .unset, .unset, .unset, .unset] []) (own_Fin s (fun (v : Option Value) (h : Heap) (L : List Loc) => ∃ k : Nat, own_first z b k ∧ v = some (.int (((own_bits (own_st z k)) % (b.toInt64)).toInt32)) ∧ Fr n0 L ∧ Keep hs h [this] ∧ Fld Z h this "com/example/tenderbook/tenderbook/clearing/SeededDraws" "state" "J" (.long (own_st z k))) 0 0) := by
  show own_Go p e below T0 (mkF m 0 #[.val (.ref this), .val (.int b), .unset, .unset, .unset, .unset] []) _
  refine own_s_aloadN X0.here hx (hb hby own_d3_0) rfl rfl ?_
  obtain ⟨cq11, kq11, q11a, q11b, q11c⟩ := isOf hZ e0 E_this
  obtain ⟨_, _, ⟨T11, L11, k11, n11⟩, -, X11, ⟨Lc11, hQ11, l11, y11, z11⟩, st11⟩ := X0.virtualBack hx (y := (⟨"com/example/tenderbook/tenderbook/clearing/SeededDraws", "nextLong", "()J"⟩ : MethodName)) (z := (⟨"com/example/tenderbook/tenderbook/clearing/SeededDraws", "nextLong", "()J"⟩ : MethodName)) hown (mvT hZ (hw _ (List.mem_of_getElem? (i := 17) rfl))) (mvT hZ (hw _ (List.mem_of_getElem? (i := 18) rfl))) (notFace_of_selects (args := #[]) (mvT hZ (hw _ (List.mem_of_getElem? (i := 20) rfl)))) (mvT hZ (hw _ (List.mem_of_getElem? (i := 20) rfl))) (mvT hZ (hw _ (List.mem_of_getElem? (i := 19) rfl))) (by decide) (backOf (W := 0) (own_r4 l Z a0 hw [] this z h0 n0 Z0 E_this F_this ge_this) hZ (hw _ (List.mem_of_getElem? (i := 21) rfl)) (hw _ (List.mem_of_getElem? (i := 3) rfl)) (by decide) (by decide)) q11a q11c (g := (mkF m 1 #[.val (.ref this), .val (.int b), .unset, .unset, .unset, .unset] [(.ref this)])) rfl (by rw [hml]; rfl) (Steps.refl _) (argsL := []) (rest := []) (lenOf own_pd_3 rfl) rfl (by show 2 * 0 + _ ≤ _; exact Nat.le_of_eq rfl) (hb hby own_d3_1) (fun _ _ => ⟨rfl, e0, (by decide : 0 + 0 ≤ _), (by decide : 0 + 0 ≤ _)⟩)
  dsimp only [Pt.U, Pt.locs, Pt.cells, Pt.slots] at X11 l11 y11 z11 st11 hQ11
  subst l11 y11 z11
  obtain ⟨rfl, N11q, K11, fs11⟩ := hQ11
  have N11 := Fr.app N0 N11q
  have f12 := E_this.keep K11
  have SZ11 : n0 ≤ T11.heap.size := Nat.le_trans Z0 K11.1
  have KC11 := K0.trans K11 (allS (Or.inl (List.mem_of_getElem? (i := 0) rfl)) all0)
  refine own_by (fun t k => st11.trans k) ?_
  show own_Go p e below T11 (mkF m 4 #[.val (.ref this), .val (.int b), .unset, .unset, .unset, .unset] [(.long (own_mix (own_st z 1)))]) _
  refine own_s_iconst X11.here hx (1 : Int32) (hb hby own_d3_4) rfl ?_
  refine own_s_lushr X11.here hx (hb hby own_d3_5) ?_
  show own_Go p e below T11 (mkF m 6 #[.val (.ref this), .val (.int b), .unset, .unset, .unset, .unset] [(.long (own_bits (own_st z 1)))]) _
  refine own_s_lstoreN X11.here hx #[.val (.ref this), .val (.int b), .val (.long (own_bits (own_st z 1))), .second, .unset, .unset] (hb hby own_d3_6) rfl ?_
  refine own_s_lloadN X11.here hx (hb hby own_d3_7) rfl ?_
  refine own_s_iloadN X11.here hx (hb hby own_d3_8) rfl ?_
  refine own_s_i2l X11.here hx (hb hby own_d3_9) ?_
  refine own_by (fun tq_ kq_ => own_lrem X11 hx rfl (hb hby own_d3_10) rfl (own_nzb hb1) kq_) ?_
  show own_Go p e below T11 (mkF m 11 #[.val (.ref this), .val (.int b), .val (.long (own_bits (own_st z 1))), .second, .unset, .unset] [(.long ((own_bits (own_st z 1)) % (b.toInt64)))]) _
  refine own_s_lstore X11.here hx #[.val (.ref this), .val (.int b), .val (.long (own_bits (own_st z 1))), .second, .val (.long ((own_bits (own_st z 1)) % (b.toInt64))), .second] (hb hby own_d3_11) rfl ?_
  refine own_s_lloadN X11.here hx (hb hby own_d3_13) rfl ?_
  refine own_s_lload X11.here hx (hb hby own_d3_14) rfl ?_
  refine own_s_lsub X11.here hx (hb hby own_d3_16) ?_
  refine own_s_iloadN X11.here hx (hb hby own_d3_17) rfl ?_
  refine own_s_iconst X11.here hx (1 : Int32) (hb hby own_d3_18) rfl ?_
  refine own_s_isub X11.here hx (hb hby own_d3_19) ?_
  refine own_s_i2l X11.here hx (hb hby own_d3_20) ?_
  refine own_s_ladd X11.here hx (hb hby own_d3_21) ?_
  refine own_s_lconst X11.here hx (0 : Int64) (hb hby own_d3_22) rfl ?_
  refine own_s_lcmp X11.here hx (hb hby own_d3_23) ?_
  by_cases hc24 : own_acc (own_st z 1) b
  ·
    refine own_s_ifNo X11.here hx (hb hby own_d3_24) (Jvm.Free.XT.ll_lt_f hc24) ?_
    show own_Go p e below T11 (mkF m 27 #[.val (.ref this), .val (.int b), .val (.long (own_bits (own_st z 1))), .second, .val (.long ((own_bits (own_st z 1)) % (b.toInt64))), .second] []) _
    refine own_s_lload X11.here hx (hb hby own_d3_27) rfl ?_
    refine own_s_l2i X11.here hx (hb hby own_d3_29) ?_
    refine own_retI X11 hx hret hlk (hb hby own_d3_30) (by decide) (by decide) ?_
    exact ⟨1, own_first_one hc24, rfl, N11, KC11, fs11⟩
  ·
    show own_Go p e below T11 (mkF m 24 #[.val (.ref this), .val (.int b), .val (.long (own_bits (own_st z 1))), .second, .val (.long ((own_bits (own_st z 1)) % (b.toInt64))), .second] [(.int (Jvm.Free.XT.cmpL (((own_bits (own_st z 1)) - ((own_bits (own_st z 1)) % (b.toInt64))) + ((b - (1 : Int32)).toInt64)) (0 : Int64)))]) _
    refine own_s_ifYes X11.here hx 0 (hb hby own_d3_24) (Jvm.Free.XT.ll_lt_t ((Classical.not_not.mp hc24))) (by decide) (by decide) ?_
    exact hnext hc24 _ _ _ _ X11 N11 SZ11 f12 fs11 KC11
set_option maxRecDepth 65536 in
set_option maxHeartbeats 40000000 in
theorem own_loop {p : Program} {l : Launch} {e : Env} {s : State} {m : MethodId} {args : Array Value} {below : List Frame} {meth : Method} {c : Code} {Z : State} {a0 : Array Value} {n0 : Nat} (hx : p.tables.exec = Jvm.exec) (hZ : Z.Warmed39 s.vm) (hw : ∀ d ∈ tables_1, d.before a0 Z = true) (hby : c.code = prog_21_method_3_code) (hml : c.maxLocals = 6) (hown : s.vm.findClass "com/example/tenderbook/tenderbook/clearing/SeededDraws" = some m.cls) (hnm : meth.name = "nextBelow") (hret : meth.sig.returnType = (some .int)) (hlk : meth.locks = false) (hs : Heap) (this : Addr) (b : Int32) (ge_this : n0 ≤ this) (hb1 : 1 ≤ b.toInt) (n : Nat) : ∀ (z b0 v0 : Int64) {T0 : State} {locs : List Loc} (X0 : Stand p l e ({ frames := 1, cells := 0, slots := 0, locals := 14 } : Room) s m args below meth c T0 locs 0 0) (N0 : Fr n0 locs) (Z0 : n0 ≤ T0.heap.size) (E_this : Exa Z T0.heap this "com/example/tenderbook/tenderbook/clearing/SeededDraws") (F_this : Fld Z T0.heap this "com/example/tenderbook/tenderbook/clearing/SeededDraws" "state" "J" (.long z)) (K0 : Keep hs T0.heap [this]) (hn : own_acc (own_st z (n + 1)) b),
    own_Go p e below T0 (mkF m 0 #[.val (.ref this), .val (.int b), .val (.long b0), .second, .val (.long v0), .second] []) (own_Fin s (fun (v : Option Value) (h : Heap) (L : List Loc) => ∃ k : Nat, own_first z b k ∧ v = some (.int (((own_bits (own_st z k)) % (b.toInt64)).toInt32)) ∧ Fr n0 L ∧ Keep hs h [this] ∧ Fld Z h this "com/example/tenderbook/tenderbook/clearing/SeededDraws" "state" "J" (.long (own_st z k))) 0 0) := by
  induction n with
  | zero =>
    intro z b0 v0 T0 locs X0 N0 Z0 E_this F_this K0 hn
    exact own_turn hx hZ hw hby hml hown hnm hret hlk hs this b z b0 v0 X0 rfl N0 Z0 E_this F_this ge_this K0 hb1 (fun q => absurd hn q)
  | succ n ih =>
    intro z b0 v0 T0 locs X0 N0 Z0 E_this F_this K0 hn
    refine own_turn hx hZ hw hby hml hown hnm hret hlk hs this b z b0 v0 X0 rfl N0 Z0 E_this F_this ge_this K0 hb1 (fun q T1 locs1 b1 v1 X1 N1 Z1 E1 F1 K1 => ?_)
    refine own_mono (fun v h L hq => ?_) (ih (own_st z 1) b1 v1 X1 N1 Z1 E1 F1 K1 (by show own_acc (own_st (z + (-7046029254386353131 : Int64)) (n + 1)) b; rw [own_st_shift]; exact hn))
    obtain ⟨k, h1, h2, h3, h4, h5⟩ := hq
    have e : own_st (own_st z 1) k = own_st z (k + 1) := own_st_shift z k
    rw [e] at h2 h5
    exact ⟨k + 1, own_first_next q h1, h2, h3, h4, h5⟩
theorem own_ef3 (m : MethodId) (this : Addr) (b : Int32) : entryFrame m #[(.ref this), (.int b)] 6 = mkF m 0 #[.val (.ref this), .val (.int b), .unset, .unset, .unset, .unset] [] := by first | (simp [entryFrame, mkF, argsToLocals, Value.category]; done) | rfl
def own_q_own_r3 (Z : State) (this : Addr) (b : Int32) (z : Int64) (h0 : Heap) (n0 : Nat) (v : Option Value) (h : Heap) (L : List Loc) : Prop := ∃ k : Nat, own_first z b k ∧ v = some (.int (((own_bits (own_st z k)) % (b.toInt64)).toInt32)) ∧ Fr n0 L ∧ Keep h0 h [this] ∧ Fld Z h this "com/example/tenderbook/tenderbook/clearing/SeededDraws" "state" "J" (.long (own_st z k))
set_option maxRecDepth 65536 in
set_option maxHeartbeats 40000000 in
theorem own_r3 (l : Launch) (Z : State) (a0 : Array Value) (hw : ∀ d ∈ tables_1, d.before a0 Z = true) (ws : List Jvm.Cond) (this : Addr) (b : Int32) (z : Int64) (h0 : Heap) (n0 : Nat) (Z0 : n0 ≤ h0.size) (hb1 : 1 ≤ b.toInt) (E_this : Exa Z h0 this "com/example/tenderbook/tenderbook/clearing/SeededDraws") (F_this_state : Fld Z h0 this "com/example/tenderbook/tenderbook/clearing/SeededDraws" "state" "J" (.long z)) (ge_this : n0 ≤ this) :
    MetFree l (⟨"com/example/tenderbook/tenderbook/clearing/SeededDraws", "nextBelow", "(I)I"⟩ : MethodName) (head1 (Jvm.Cond.code (⟨"com/example/tenderbook/tenderbook/clearing/SeededDraws", "nextBelow", "(I)I"⟩ : MethodName) prog_21_method_3_code 6 (some .int) :: ws) ({ frames := 1, cells := 0, slots := 0, locals := 14 } : Room)) (fun a U => a = #[(.ref this), (.int b)] ∧ Z.Warmed39 U.vm ∧ U.heap = h0) (fun _ _ _ _ _ => True) (fun _ U o U' => ∃ v L, o = .returned v ∧ own_q_own_r3 Z this b z h0 n0 v U'.heap L ∧ FrameEnd U o U' L ({ frames := 1, cells := 0, slots := 0, locals := 14 } : Room).cells ({ frames := 1, cells := 0, slots := 0, locals := 14 } : Room).slots) := by
  refine MetFree.of_bodySF (plainFor_of_name own_pn_SeededDraws) hisR ?_
  intro p e s m args below meth c T0 Bd hml0 hP hK
  obtain ⟨rfl, hZ, hh⟩ := hP
  have hx := Bd.exec
  have hby := Bd.bytes
  have hml : c.maxLocals = 6 := hml0
  have hown : s.vm.findClass "com/example/tenderbook/tenderbook/clearing/SeededDraws" = some m.cls := findClass_of_methodNamed Bd.named
  have hnm := (name_of_methodNamed Bd.named Bd.method).1
  have hret : meth.sig.returnType = (some .int) := Bd.returns
  have hlk : meth.locks = false := BodyLoose.notSynchronized Bd
  have X0 : Stand p l e ({ frames := 1, cells := 0, slots := 0, locals := 14 } : Room) s m #[(.ref this), (.int b)] below meth c T0 [] 0 0 := Stand.of_body Bd
  have e0 : T0.heap = h0 := by rw [← hh, Bd.state]; rfl
  have N0 := Fr.nil n0
  refine own_start (own_ef3 m this b) (Q := fun (v : Option Value) (h : Heap) (L : List Loc) => ∃ k : Nat, own_first z b k ∧ v = some (.int (((own_bits (own_st z k)) % (b.toInt64)).toInt32)) ∧ Fr n0 L ∧ Keep h0 h [this] ∧ Fld Z h this "com/example/tenderbook/tenderbook/clearing/SeededDraws" "state" "J" (.long (own_st z k))) (k := 0) (j := 0) ?_
  show own_Go p e below T0 (mkF m 0 #[.val (.ref this), .val (.int b), .unset, .unset, .unset, .unset] []) _
  obtain ⟨n, hn⟩ := own_term z b hb1
  refine own_turn0 hx hZ hw hby hml hown hnm hret hlk h0 this b z X0 e0 N0 Z0 E_this F_this_state ge_this (Keep.refl h0 [this]) hb1 (fun q T1 locs1 b1 v1 X1 N1 Z1 E1 F1 K1 => ?_)
  obtain ⟨n, rfl⟩ : ∃ i, n = i + 1 := by
    cases n with
    | zero => exact absurd hn q
    | succ i => exact ⟨i, rfl⟩
  refine own_mono (fun v h L hq => ?_) (own_loop hx hZ hw hby hml hown hnm hret hlk h0 this b ge_this hb1 n (own_st z 1) b1 v1 X1 N1 Z1 E1 F1 K1 (by show own_acc (own_st (z + (-7046029254386353131 : Int64)) (n + 1)) b; rw [own_st_shift]; exact hn))
  obtain ⟨k, h1, h2, h3, h4, h5⟩ := hq
  have e : own_st (own_st z 1) k = own_st z (k + 1) := own_st_shift z k
  rw [e] at h2 h5
  exact ⟨k + 1, own_first_next q h1, h2, h3, h4, h5⟩
theorem own_bits_b (z : Int64) : 0 ≤ (own_bits z).toInt := by
  unfold own_bits
  have e : ((own_mix z).toUInt64 >>> ((1 : Int32) &&& 0x3f).toInt64.toUInt64).toInt64.toBitVec.toNat = (own_mix z).toBitVec.toNat / 2 := by
    simp only [UInt64.toBitVec_toInt64, UInt64.toBitVec_shiftRight, Int64.toBitVec_toUInt64]
    rw [show ((1 : Int32) &&& 0x3f).toInt64.toBitVec = 1#64 from by decide]
    simp [BitVec.toNat_ushiftRight, Nat.shiftRight_eq_div_pow]
  have hb := (own_mix z).toBitVec.isLt
  have h2 : (((own_mix z).toUInt64 >>> ((1 : Int32) &&& 0x3f).toInt64.toUInt64).toInt64).toInt = (((own_mix z).toUInt64 >>> ((1 : Int32) &&& 0x3f).toInt64.toUInt64).toInt64).toBitVec.toInt := rfl
  rw [h2, BitVec.toInt_eq_toNat_cond, e, if_pos (by omega)]
  omega
theorem own_rb (x : Int64) (b : Int32) (hx : 0 ≤ x.toInt) (hb : 1 ≤ b.toInt) : (x % b.toInt64).toInt = x.toInt % b.toInt ∧ 0 ≤ x.toInt % b.toInt ∧ x.toInt % b.toInt < b.toInt := by
  refine ⟨?_, Int.emod_nonneg _ (by omega), Int.emod_lt_of_pos _ (by omega)⟩
  rw [← own_lrem_eq, Jvm.Kit.i64_rem_nonneg hx, Jvm.Kit.i64_of_i32]
theorem own_r32 (x : Int64) (b : Int32) (hx : 0 ≤ x.toInt) (hb : 1 ≤ b.toInt) : ¬ ((x % b.toInt64).toInt32) < 0 ∧ ((x % b.toInt64).toInt32) < b ∧ ((x % b.toInt64).toInt32).toInt64 = x % b.toInt64 := by
  obtain ⟨e, h1, h2⟩ := own_rb x b hx hb
  have hb2 := b.toInt_lt
  have e1 : ((x % b.toInt64).toInt32).toInt = x.toInt % b.toInt := by rw [Jvm.Kit.i32_of_i64 (by omega) (by omega), e]
  refine ⟨?_, ?_, Int64.toInt_inj.mp ?_⟩
  · rw [Int32.lt_iff_toInt_lt, e1, show (0 : Int32).toInt = 0 from by decide]; omega
  · rw [Int32.lt_iff_toInt_lt, e1]; omega
  · rw [Jvm.Kit.i64_of_i32, e1, e]
theorem own_limI (X B : Int) (hX0 : 0 ≤ X) (hX1 : X ≤ 9223372036854775807) (hB : 1 ≤ B) : 9223372036854775807 - (9223372036854775807 % B + 1) % B < X ↔ 9223372036854775807 < X - X % B + (B - 1) := by
  rw [Int.emod_add_emod, show (9223372036854775807 : Int) + 1 = 9223372036854775808 from by decide]
  have d1 := Int.mul_ediv_add_emod X B
  have d2 := Int.mul_ediv_add_emod 9223372036854775808 B
  have r1 := Int.emod_nonneg X (show B ≠ 0 by omega)
  have r2 := Int.emod_lt_of_pos X (show 0 < B by omega)
  have r3 := Int.emod_nonneg 9223372036854775808 (show B ≠ 0 by omega)
  have r4 := Int.emod_lt_of_pos 9223372036854775808 (show 0 < B by omega)
  generalize X / B = q at *
  generalize X % B = r at *
  generalize (9223372036854775808 : Int) / B = q2 at *
  generalize (9223372036854775808 : Int) % B = r' at *
  by_cases h : q2 ≤ q
  · have m1 : B * q2 ≤ B * q := Int.mul_le_mul_of_nonneg_left h (by omega)
    generalize B * q2 = P2 at *
    generalize B * q = P1 at *
    omega
  · have m1 : B * (q + 1) ≤ B * q2 := Int.mul_le_mul_of_nonneg_left (by omega) (by omega)
    rw [Int.mul_add, Int.mul_one] at m1
    generalize B * q2 = P2 at *
    generalize B * q = P1 at *
    omega
theorem own_lim (z : Int64) (b : Int32) (hb : 1 ≤ b.toInt) : ((9223372036854775807 : Int64) - (((9223372036854775807 : Int64) % (b.toInt64) + (1 : Int64)) % (b.toInt64))) < own_bits z ↔ ¬ own_acc z b := by
  have hx := own_bits_b z
  unfold own_acc
  rw [Decidable.not_not]
  generalize own_bits z = x at *
  have hx2 := x.toInt_lt
  have hb2 := b.toInt_lt
  have cM : (9223372036854775807 : Int64).toInt = 9223372036854775807 := by decide
  have c1 : (1 : Int64).toInt = 1 := by decide
  have c1' : (1 : Int32).toInt = 1 := by decide
  obtain ⟨e1, h1, h2⟩ := own_rb x b hx hb
  obtain ⟨e2, h3, h4⟩ := own_rb (9223372036854775807 : Int64) b (by decide) hb
  rw [cM] at e2 h3 h4
  have e3 : ((9223372036854775807 : Int64) % (b.toInt64) + (1 : Int64)).toInt = 9223372036854775807 % b.toInt + 1 := by rw [Jvm.Kit.i64_add (by rw [e2, c1]; omega) (by rw [e2, c1]; omega), e2, c1]
  obtain ⟨e4, h5, h6⟩ := own_rb ((9223372036854775807 : Int64) % (b.toInt64) + (1 : Int64)) b (by rw [e3]; omega) hb
  rw [e3] at e4 h5 h6
  have e5 : ((9223372036854775807 : Int64) - (((9223372036854775807 : Int64) % (b.toInt64) + (1 : Int64)) % (b.toInt64))).toInt = 9223372036854775807 - (9223372036854775807 % b.toInt + 1) % b.toInt := by rw [Jvm.Kit.i64_sub (by rw [e4, cM]; omega) (by rw [e4, cM]; omega), e4, cM]
  have e6 : (x - x % b.toInt64).toInt = x.toInt - x.toInt % b.toInt := by rw [Jvm.Kit.i64_sub (by rw [e1]; omega) (by rw [e1]; omega), e1]
  have e7 : ((b - (1 : Int32)).toInt64).toInt = b.toInt - 1 := by rw [Jvm.Kit.i64_of_i32, Jvm.Kit.i32_sub (by rw [c1']; omega) (by rw [c1']; omega), c1']
  have hX := own_limI x.toInt b.toInt hx (by omega) hb
  have d1 := Int.mul_ediv_add_emod x.toInt b.toInt
  have hle : 0 ≤ x.toInt - x.toInt % b.toInt := by have := Int.mul_nonneg (show 0 ≤ b.toInt by omega) (Int.ediv_nonneg hx (show 0 ≤ b.toInt by omega)); omega
  rw [Int64.lt_iff_toInt_lt, Int64.lt_iff_toInt_lt, e5, show (0 : Int64).toInt = 0 from by decide, hX, Int64.toInt_add, e6, e7, Int.bmod_def]
  omega
theorem own_one {z : Int64} {b : Int32} {k : Nat} (hf : own_first z b k) (h : own_acc (own_st z 1) b) : k = 1 := by
  by_cases q : k = 1
  · exact q
  · exact absurd h (hf.2.2 1 (Nat.le_refl 1) (by have := hf.1; omega))
theorem own_two {z : Int64} {b : Int32} {k : Nat} (hf : own_first z b k) (h1 : ¬ own_acc (own_st z 1) b) (h : own_acc (own_st z 2) b) : k = 2 := by
  by_cases q : k = 1
  · subst q; exact absurd hf.2.1 h1
  · by_cases q2 : k = 2
    · exact q2
    · exact absurd h (hf.2.2 2 (by omega) (by have := hf.1; omega))
theorem own_cpos (x : Int32) (h : ¬ (x &&& (2147483647 : Int32)) = 0) : 1 ≤ (x &&& (2147483647 : Int32)).toInt := by
  have e1 : (x &&& (2147483647 : Int32)).toInt = x.toInt % 2 ^ 31 := Jvm.Kit.i32_mask x _ (k := 31) (by decide) (by decide)
  rw [← Int32.toInt_inj, show (0 : Int32).toInt = 0 from by decide] at h
  omega
theorem own_pn_SeededDrawsNextBelowPinLaw : plainName "com/example/tenderbook/tenderbook/clearing/SeededDrawsNextBelowPinLaw" = true := by first | (simp [plainName, overriddenIn]; done) | decide +kernel
theorem own_pd_0 : parseMethodDescriptor "(J)V" = some ⟨[.long], none⟩ := by decide +kernel
theorem own_pd_2 : parseMethodDescriptor "(I)I" = some ⟨[.int], some .int⟩ := by decide +kernel
set_option maxRecDepth 65536 in
set_option maxHeartbeats 40000000 in
theorem own_p16 {p : Program} {l : Launch} {e : Env} {s : State} {m : MethodId} {args : Array Value} {below : List Frame} {meth : Method} {c : Code} {Z : State} {a0 : Array Value} {n0 : Nat} (hx : p.tables.exec = Jvm.exec) (hZ : Z.Warmed39 s.vm) (hw : ∀ d ∈ tables_1, d.before a0 Z = true) (hby : c.code = code) (hml : c.maxLocals = 24) (hown : s.vm.findClass "com/example/tenderbook/tenderbook/clearing/SeededDrawsNextBelowPinLaw" = some m.cls) (hnm : meth.name = "law") (hret : meth.sig.returnType = (some .boolean)) (hlk : meth.locks = false) (sd : Int64) (b0 mk b : Int32) {T0 : State} {locs : List Loc} {h0 : Heap} (X0 : Stand p l e room_1 s m args below meth c T0 locs 0 0) (e0 : T0.heap = h0) (N0 : Fr n0 locs) (Z0 : n0 ≤ h0.size) (hbb : 1 ≤ b.toInt) :
    own_Go p e below T0 (mkF m 16 #[.val (.long sd), .second, .val (.int b0), .val (.int mk), .val (.int b), .unset, .unset, .unset, .unset, .unset, .unset, .unset, .unset, .unset, .unset, .unset, .unset, .unset, .unset, .unset, .unset, .unset, .unset, .unset] []) (own_Fin s (fun (v : Option Value) (h : Heap) (L : List Loc) => v = some (.int 1) ∧ Fr n0 L) 16 128) := by
  show own_Go p e below T0 (mkF m 16 #[.val (.long sd), .second, .val (.int b0), .val (.int mk), .val (.int b), .unset, .unset, .unset, .unset, .unset, .unset, .unset, .unset, .unset, .unset, .unset, .unset, .unset, .unset, .unset, .unset, .unset, .unset, .unset] []) _
  obtain ⟨T13, h13, X13, e13, E13, A13, D13, -, st13⟩ := newO X0 hx hZ hown (hw _ (List.mem_of_getElem? (i := 1) rfl)) (hw _ (List.mem_of_getElem? (i := 2) rfl)) (hw _ (List.mem_of_getElem? (i := 3) rfl)) e0 (g := (mkF m 16 #[.val (.long sd), .second, .val (.int b0), .val (.int mk), .val (.int b), .unset, .unset, .unset, .unset, .unset, .unset, .unset, .unset, .unset, .unset, .unset, .unset, .unset, .unset, .unset, .unset, .unset, .unset, .unset] [])) rfl (hb hby at_16) (by decide) (by decide)
  obtain ⟨b13, g13⟩ : ∃ z, z = h0.size := ⟨_, rfl⟩
  rw [← g13] at A13 D13 st13
  have ge_b13 : n0 ≤ b13 := Nat.le_trans Z0 (Nat.le_of_eq g13.symm)
  have SZ13 : n0 ≤ h13.size := Nat.le_trans Z0 E13.1
  have f14 : Fld Z h13 b13 "com/example/tenderbook/tenderbook/clearing/SeededDraws" "state" "J" (.long (0 : Int64)) := D13 (Or.inl (hw _ (List.mem_of_getElem? (i := 11) rfl))) (ty := .long) (by decide)
  refine own_by st13 ?_
  show own_Go p e below T13 (mkF m 19 #[.val (.long sd), .second, .val (.int b0), .val (.int mk), .val (.int b), .unset, .unset, .unset, .unset, .unset, .unset, .unset, .unset, .unset, .unset, .unset, .unset, .unset, .unset, .unset, .unset, .unset, .unset, .unset] [(.ref b13)]) _
  refine own_s_dup X13.here hx (hb hby at_19) rfl ?_
  refine own_s_lloadN X13.here hx (hb hby at_20) rfl ?_
  obtain ⟨_, _, ⟨T15, L15, k15, n15⟩, -, X15, ⟨Lc15, hQ15, l15, y15, z15⟩, st15⟩ := X13.specialBack hx (y := (⟨"com/example/tenderbook/tenderbook/clearing/SeededDraws", "<init>", "(J)V"⟩ : MethodName)) rfl hown (mvT hZ (hw _ (List.mem_of_getElem? (i := 4) rfl))) (mvT hZ (hw _ (List.mem_of_getElem? (i := 5) rfl))) (mvT hZ (hw _ (List.mem_of_getElem? (i := 6) rfl))) (by decide) (backOf (W := 1) (own_r1 l Z a0 hw [] b13 sd  h13 n0 SZ13 A13 f14 ge_b13) hZ (hw _ (List.mem_of_getElem? (i := 6) rfl)) (hw _ (List.mem_of_getElem? (i := 3) rfl)) (by decide) (by decide)) (g := (mkF m 21 #[.val (.long sd), .second, .val (.int b0), .val (.int mk), .val (.int b), .unset, .unset, .unset, .unset, .unset, .unset, .unset, .unset, .unset, .unset, .unset, .unset, .unset, .unset, .unset, .unset, .unset, .unset, .unset] [(.long sd), (.ref b13), (.ref b13)])) rfl (by rw [hml]; rfl) (Steps.refl _) (a := b13) (argsL := [(.long sd)]) (rest := [(.ref b13)]) (lenOf own_pd_0 rfl) rfl (by show 2 * 0 + _ ≤ _; exact Nat.le_of_eq rfl) (hb hby at_21) (fun _ _ => ⟨rfl, e13, (by decide : 1 + 0 ≤ _), (by decide : 1 + 0 ≤ _)⟩)
  dsimp only [Pt.U, Pt.locs, Pt.cells, Pt.slots] at X15 l15 y15 z15 st15 hQ15
  subst l15 y15 z15
  obtain ⟨rfl, N15q, K15, fs15⟩ := hQ15
  have N15 := Fr.app N0 N15q
  have f16 := A13.keep K15
  have SZ15 : n0 ≤ T15.heap.size := Nat.le_trans SZ13 K15.1
  refine own_by (fun t k => st15.trans k) ?_
  show own_Go p e below T15 (mkF m 24 #[.val (.long sd), .second, .val (.int b0), .val (.int mk), .val (.int b), .unset, .unset, .unset, .unset, .unset, .unset, .unset, .unset, .unset, .unset, .unset, .unset, .unset, .unset, .unset, .unset, .unset, .unset, .unset] [(.ref b13)]) _
  refine own_s_astore X15.here hx #[.val (.long sd), .second, .val (.int b0), .val (.int mk), .val (.int b), .val (.ref b13), .unset, .unset, .unset, .unset, .unset, .unset, .unset, .unset, .unset, .unset, .unset, .unset, .unset, .unset, .unset, .unset, .unset, .unset] (hb hby at_24) rfl rfl ?_
  obtain ⟨T17, h17, X17, e17, E17, A17, D17, -, st17⟩ := newO X15 hx hZ hown (hw _ (List.mem_of_getElem? (i := 1) rfl)) (hw _ (List.mem_of_getElem? (i := 2) rfl)) (hw _ (List.mem_of_getElem? (i := 3) rfl)) rfl (g := (mkF m 26 #[.val (.long sd), .second, .val (.int b0), .val (.int mk), .val (.int b), .val (.ref b13), .unset, .unset, .unset, .unset, .unset, .unset, .unset, .unset, .unset, .unset, .unset, .unset, .unset, .unset, .unset, .unset, .unset, .unset] [])) rfl (hb hby at_26) (by decide) (by decide)
  obtain ⟨b17, g17⟩ : ∃ z, z = T15.heap.size := ⟨_, rfl⟩
  rw [← g17] at A17 D17 st17
  have ge_b17 : n0 ≤ b17 := Nat.le_trans SZ15 (Nat.le_of_eq g17.symm)
  have ne_b13_b17 : b13 ≠ b17 := Nat.ne_of_lt (Nat.lt_of_lt_of_le f16.lt (Nat.le_of_eq g17.symm))
  have f18 := f16.ext E17
  have f19 := fs15.ext E17
  have SZ17 : n0 ≤ h17.size := Nat.le_trans SZ15 E17.1
  have f20 : Fld Z h17 b17 "com/example/tenderbook/tenderbook/clearing/SeededDraws" "state" "J" (.long (0 : Int64)) := D17 (Or.inl (hw _ (List.mem_of_getElem? (i := 11) rfl))) (ty := .long) (by decide)
  refine own_by st17 ?_
  show own_Go p e below T17 (mkF m 29 #[.val (.long sd), .second, .val (.int b0), .val (.int mk), .val (.int b), .val (.ref b13), .unset, .unset, .unset, .unset, .unset, .unset, .unset, .unset, .unset, .unset, .unset, .unset, .unset, .unset, .unset, .unset, .unset, .unset] [(.ref b17)]) _
  refine own_s_dup X17.here hx (hb hby at_29) rfl ?_
  refine own_s_lloadN X17.here hx (hb hby at_30) rfl ?_
  obtain ⟨_, _, ⟨T21, L21, k21, n21⟩, -, X21, ⟨Lc21, hQ21, l21, y21, z21⟩, st21⟩ := X17.specialBack hx (y := (⟨"com/example/tenderbook/tenderbook/clearing/SeededDraws", "<init>", "(J)V"⟩ : MethodName)) rfl hown (mvT hZ (hw _ (List.mem_of_getElem? (i := 4) rfl))) (mvT hZ (hw _ (List.mem_of_getElem? (i := 5) rfl))) (mvT hZ (hw _ (List.mem_of_getElem? (i := 6) rfl))) (by decide) (backOf (W := 1) (own_r1 l Z a0 hw [] b17 sd  h17 n0 SZ17 A17 f20 ge_b17) hZ (hw _ (List.mem_of_getElem? (i := 6) rfl)) (hw _ (List.mem_of_getElem? (i := 3) rfl)) (by decide) (by decide)) (g := (mkF m 31 #[.val (.long sd), .second, .val (.int b0), .val (.int mk), .val (.int b), .val (.ref b13), .unset, .unset, .unset, .unset, .unset, .unset, .unset, .unset, .unset, .unset, .unset, .unset, .unset, .unset, .unset, .unset, .unset, .unset] [(.long sd), (.ref b17), (.ref b17)])) rfl (by rw [hml]; rfl) (Steps.refl _) (a := b17) (argsL := [(.long sd)]) (rest := [(.ref b17)]) (lenOf own_pd_0 rfl) rfl (by show 2 * 0 + _ ≤ _; exact Nat.le_of_eq rfl) (hb hby at_31) (fun _ _ => ⟨rfl, e17, (by decide : 2 + 0 ≤ _), (by decide : 2 + 0 ≤ _)⟩)
  dsimp only [Pt.U, Pt.locs, Pt.cells, Pt.slots] at X21 l21 y21 z21 st21 hQ21
  subst l21 y21 z21
  obtain ⟨rfl, N21q, K21, fs21⟩ := hQ21
  have N21 := Fr.app N15 N21q
  have f22 := f18.keep K21
  have f23 := f19.keep K21 (ninS ne_b13_b17 nin0)
  have f24 := A17.keep K21
  have SZ21 : n0 ≤ T21.heap.size := Nat.le_trans SZ17 K21.1
  refine own_by (fun t k => st21.trans k) ?_
  show own_Go p e below T21 (mkF m 34 #[.val (.long sd), .second, .val (.int b0), .val (.int mk), .val (.int b), .val (.ref b13), .unset, .unset, .unset, .unset, .unset, .unset, .unset, .unset, .unset, .unset, .unset, .unset, .unset, .unset, .unset, .unset, .unset, .unset] [(.ref b17)]) _
  refine own_s_astore X21.here hx #[.val (.long sd), .second, .val (.int b0), .val (.int mk), .val (.int b), .val (.ref b13), .val (.ref b17), .unset, .unset, .unset, .unset, .unset, .unset, .unset, .unset, .unset, .unset, .unset, .unset, .unset, .unset, .unset, .unset, .unset] (hb hby at_34) rfl rfl ?_
  refine own_s_aload X21.here hx (hb hby at_36) rfl rfl ?_
  refine own_s_iload X21.here hx (hb hby at_38) rfl ?_
  obtain ⟨cq25, kq25, q25a, q25b, q25c⟩ := isOf hZ rfl f22
  obtain ⟨_, _, ⟨T25, L25, k25, n25⟩, -, X25, ⟨Lc25, hQ25, l25, y25, z25⟩, st25⟩ := X21.virtualBack hx (y := (⟨"com/example/tenderbook/tenderbook/clearing/SeededDraws", "nextBelow", "(I)I"⟩ : MethodName)) (z := (⟨"com/example/tenderbook/tenderbook/clearing/SeededDraws", "nextBelow", "(I)I"⟩ : MethodName)) hown (mvT hZ (hw _ (List.mem_of_getElem? (i := 12) rfl))) (mvT hZ (hw _ (List.mem_of_getElem? (i := 13) rfl))) (notFace_of_selects (args := #[]) (mvT hZ (hw _ (List.mem_of_getElem? (i := 15) rfl)))) (mvT hZ (hw _ (List.mem_of_getElem? (i := 15) rfl))) (mvT hZ (hw _ (List.mem_of_getElem? (i := 14) rfl))) (by decide) (backOf (W := 0) (own_r3 l Z a0 hw [] b13 b sd T21.heap n0 SZ21 hbb f22 f23 ge_b13) hZ (hw _ (List.mem_of_getElem? (i := 16) rfl)) (hw _ (List.mem_of_getElem? (i := 3) rfl)) (by decide) (by decide)) q25a q25c (g := (mkF m 40 #[.val (.long sd), .second, .val (.int b0), .val (.int mk), .val (.int b), .val (.ref b13), .val (.ref b17), .unset, .unset, .unset, .unset, .unset, .unset, .unset, .unset, .unset, .unset, .unset, .unset, .unset, .unset, .unset, .unset, .unset] [(.int b), (.ref b13)])) rfl (by rw [hml]; rfl) (Steps.refl _) (argsL := [(.int b)]) (rest := []) (lenOf own_pd_2 rfl) rfl (by show 2 * 0 + _ ≤ _; exact Nat.le_of_eq rfl) (hb hby at_40) (fun _ _ => ⟨rfl, rfl, (by decide : 2 + 0 ≤ _), (by decide : 2 + 0 ≤ _)⟩)
  dsimp only [Pt.U, Pt.locs, Pt.cells, Pt.slots] at X25 l25 y25 z25 st25 hQ25
  subst l25 y25 z25
  obtain ⟨kk25, hf25, rfl, N25q, K25, fs25⟩ := hQ25
  have N25 := Fr.app N21 N25q
  have f26 := f22.keep K25
  have f27 := f24.keep K25
  have f28 := fs21.keep K25 (ninS (Ne.symm ne_b13_b17) nin0)
  have SZ25 : n0 ≤ T25.heap.size := Nat.le_trans SZ21 K25.1
  refine own_by (fun t k => st25.trans k) ?_
  show own_Go p e below T25 (mkF m 43 #[.val (.long sd), .second, .val (.int b0), .val (.int mk), .val (.int b), .val (.ref b13), .val (.ref b17), .unset, .unset, .unset, .unset, .unset, .unset, .unset, .unset, .unset, .unset, .unset, .unset, .unset, .unset, .unset, .unset, .unset] [(.int (((own_bits (own_st sd kk25)) % (b.toInt64)).toInt32))]) _
  refine own_s_istore X25.here hx #[.val (.long sd), .second, .val (.int b0), .val (.int mk), .val (.int b), .val (.ref b13), .val (.ref b17), .val (.int (((own_bits (own_st sd kk25)) % (b.toInt64)).toInt32)), .unset, .unset, .unset, .unset, .unset, .unset, .unset, .unset, .unset, .unset, .unset, .unset, .unset, .unset, .unset, .unset] (hb hby at_43) rfl ?_
  refine own_s_aload X25.here hx (hb hby at_45) rfl rfl ?_
  obtain ⟨cq29, kq29, q29a, q29b, q29c⟩ := isOf hZ rfl f26
  obtain ⟨_, _, ⟨T29, L29, k29, n29⟩, -, X29, ⟨Lc29, hQ29, l29, y29, z29⟩, st29⟩ := X25.virtualBack hx (y := (⟨"com/example/tenderbook/tenderbook/clearing/SeededDraws", "nextLong", "()J"⟩ : MethodName)) (z := (⟨"com/example/tenderbook/tenderbook/clearing/SeededDraws", "nextLong", "()J"⟩ : MethodName)) hown (mvT hZ (hw _ (List.mem_of_getElem? (i := 25) rfl))) (mvT hZ (hw _ (List.mem_of_getElem? (i := 18) rfl))) (notFace_of_selects (args := #[]) (mvT hZ (hw _ (List.mem_of_getElem? (i := 20) rfl)))) (mvT hZ (hw _ (List.mem_of_getElem? (i := 20) rfl))) (mvT hZ (hw _ (List.mem_of_getElem? (i := 19) rfl))) (by decide) (backOf (W := 0) (own_r4 l Z a0 hw [] b13 (own_st sd kk25) T25.heap n0 SZ25 f26 fs25 ge_b13) hZ (hw _ (List.mem_of_getElem? (i := 21) rfl)) (hw _ (List.mem_of_getElem? (i := 3) rfl)) (by decide) (by decide)) q29a q29c (g := (mkF m 47 #[.val (.long sd), .second, .val (.int b0), .val (.int mk), .val (.int b), .val (.ref b13), .val (.ref b17), .val (.int (((own_bits (own_st sd kk25)) % (b.toInt64)).toInt32)), .unset, .unset, .unset, .unset, .unset, .unset, .unset, .unset, .unset, .unset, .unset, .unset, .unset, .unset, .unset, .unset] [(.ref b13)])) rfl (by rw [hml]; rfl) (Steps.refl _) (argsL := []) (rest := []) (lenOf own_pd_3 rfl) rfl (by show 2 * 0 + _ ≤ _; exact Nat.le_of_eq rfl) (hb hby at_47) (fun _ _ => ⟨rfl, rfl, (by decide : 2 + 0 ≤ _), (by decide : 2 + 0 ≤ _)⟩)
  dsimp only [Pt.U, Pt.locs, Pt.cells, Pt.slots] at X29 l29 y29 z29 st29 hQ29
  subst l29 y29 z29
  obtain ⟨rfl, N29q, K29, fs29⟩ := hQ29
  have N29 := Fr.app N25 N29q
  have f30 := f26.keep K29
  have f31 := f27.keep K29
  have f32 := f28.keep K29 (ninS (Ne.symm ne_b13_b17) nin0)
  have SZ29 : n0 ≤ T29.heap.size := Nat.le_trans SZ25 K29.1
  refine own_by (fun t k => st29.trans k) ?_
  show own_Go p e below T29 (mkF m 50 #[.val (.long sd), .second, .val (.int b0), .val (.int mk), .val (.int b), .val (.ref b13), .val (.ref b17), .val (.int (((own_bits (own_st sd kk25)) % (b.toInt64)).toInt32)), .unset, .unset, .unset, .unset, .unset, .unset, .unset, .unset, .unset, .unset, .unset, .unset, .unset, .unset, .unset, .unset] [(.long (own_mix (own_st sd (kk25 + 1))))]) _
  refine own_s_lstore X29.here hx #[.val (.long sd), .second, .val (.int b0), .val (.int mk), .val (.int b), .val (.ref b13), .val (.ref b17), .val (.int (((own_bits (own_st sd kk25)) % (b.toInt64)).toInt32)), .val (.long (own_mix (own_st sd (kk25 + 1)))), .second, .unset, .unset, .unset, .unset, .unset, .unset, .unset, .unset, .unset, .unset, .unset, .unset, .unset, .unset] (hb hby at_50) rfl ?_
  refine own_s_aload X29.here hx (hb hby at_52) rfl rfl ?_
  obtain ⟨cq33, kq33, q33a, q33b, q33c⟩ := isOf hZ rfl f31
  obtain ⟨_, _, ⟨T33, L33, k33, n33⟩, -, X33, ⟨Lc33, hQ33, l33, y33, z33⟩, st33⟩ := X29.virtualBack hx (y := (⟨"com/example/tenderbook/tenderbook/clearing/SeededDraws", "nextLong", "()J"⟩ : MethodName)) (z := (⟨"com/example/tenderbook/tenderbook/clearing/SeededDraws", "nextLong", "()J"⟩ : MethodName)) hown (mvT hZ (hw _ (List.mem_of_getElem? (i := 25) rfl))) (mvT hZ (hw _ (List.mem_of_getElem? (i := 18) rfl))) (notFace_of_selects (args := #[]) (mvT hZ (hw _ (List.mem_of_getElem? (i := 20) rfl)))) (mvT hZ (hw _ (List.mem_of_getElem? (i := 20) rfl))) (mvT hZ (hw _ (List.mem_of_getElem? (i := 19) rfl))) (by decide) (backOf (W := 0) (own_r4 l Z a0 hw [] b17 sd T29.heap n0 SZ29 f31 f32 ge_b17) hZ (hw _ (List.mem_of_getElem? (i := 21) rfl)) (hw _ (List.mem_of_getElem? (i := 3) rfl)) (by decide) (by decide)) q33a q33c (g := (mkF m 54 #[.val (.long sd), .second, .val (.int b0), .val (.int mk), .val (.int b), .val (.ref b13), .val (.ref b17), .val (.int (((own_bits (own_st sd kk25)) % (b.toInt64)).toInt32)), .val (.long (own_mix (own_st sd (kk25 + 1)))), .second, .unset, .unset, .unset, .unset, .unset, .unset, .unset, .unset, .unset, .unset, .unset, .unset, .unset, .unset] [(.ref b17)])) rfl (by rw [hml]; rfl) (Steps.refl _) (argsL := []) (rest := []) (lenOf own_pd_3 rfl) rfl (by show 2 * 0 + _ ≤ _; exact Nat.le_of_eq rfl) (hb hby at_54) (fun _ _ => ⟨rfl, rfl, (by decide : 2 + 0 ≤ _), (by decide : 2 + 0 ≤ _)⟩)
  dsimp only [Pt.U, Pt.locs, Pt.cells, Pt.slots] at X33 l33 y33 z33 st33 hQ33
  subst l33 y33 z33
  obtain ⟨rfl, N33q, K33, fs33⟩ := hQ33
  have N33 := Fr.app N29 N33q
  have f34 := f30.keep K33
  have f35 := f31.keep K33
  have f36 := fs29.keep K33 (ninS ne_b13_b17 nin0)
  have SZ33 : n0 ≤ T33.heap.size := Nat.le_trans SZ29 K33.1
  refine own_by (fun t k => st33.trans k) ?_
  show own_Go p e below T33 (mkF m 57 #[.val (.long sd), .second, .val (.int b0), .val (.int mk), .val (.int b), .val (.ref b13), .val (.ref b17), .val (.int (((own_bits (own_st sd kk25)) % (b.toInt64)).toInt32)), .val (.long (own_mix (own_st sd (kk25 + 1)))), .second, .unset, .unset, .unset, .unset, .unset, .unset, .unset, .unset, .unset, .unset, .unset, .unset, .unset, .unset] [(.long (own_mix (own_st sd 1)))]) _
  refine own_s_lstore X33.here hx #[.val (.long sd), .second, .val (.int b0), .val (.int mk), .val (.int b), .val (.ref b13), .val (.ref b17), .val (.int (((own_bits (own_st sd kk25)) % (b.toInt64)).toInt32)), .val (.long (own_mix (own_st sd (kk25 + 1)))), .second, .val (.long (own_mix (own_st sd 1))), .second, .unset, .unset, .unset, .unset, .unset, .unset, .unset, .unset, .unset, .unset, .unset, .unset] (hb hby at_57) rfl ?_
  refine own_s_aload X33.here hx (hb hby at_59) rfl rfl ?_
  obtain ⟨cq37, kq37, q37a, q37b, q37c⟩ := isOf hZ rfl f35
  obtain ⟨_, _, ⟨T37, L37, k37, n37⟩, -, X37, ⟨Lc37, hQ37, l37, y37, z37⟩, st37⟩ := X33.virtualBack hx (y := (⟨"com/example/tenderbook/tenderbook/clearing/SeededDraws", "nextLong", "()J"⟩ : MethodName)) (z := (⟨"com/example/tenderbook/tenderbook/clearing/SeededDraws", "nextLong", "()J"⟩ : MethodName)) hown (mvT hZ (hw _ (List.mem_of_getElem? (i := 25) rfl))) (mvT hZ (hw _ (List.mem_of_getElem? (i := 18) rfl))) (notFace_of_selects (args := #[]) (mvT hZ (hw _ (List.mem_of_getElem? (i := 20) rfl)))) (mvT hZ (hw _ (List.mem_of_getElem? (i := 20) rfl))) (mvT hZ (hw _ (List.mem_of_getElem? (i := 19) rfl))) (by decide) (backOf (W := 0) (own_r4 l Z a0 hw [] b17 (own_st sd 1) T33.heap n0 SZ33 f35 fs33 ge_b17) hZ (hw _ (List.mem_of_getElem? (i := 21) rfl)) (hw _ (List.mem_of_getElem? (i := 3) rfl)) (by decide) (by decide)) q37a q37c (g := (mkF m 61 #[.val (.long sd), .second, .val (.int b0), .val (.int mk), .val (.int b), .val (.ref b13), .val (.ref b17), .val (.int (((own_bits (own_st sd kk25)) % (b.toInt64)).toInt32)), .val (.long (own_mix (own_st sd (kk25 + 1)))), .second, .val (.long (own_mix (own_st sd 1))), .second, .unset, .unset, .unset, .unset, .unset, .unset, .unset, .unset, .unset, .unset, .unset, .unset] [(.ref b17)])) rfl (by rw [hml]; rfl) (Steps.refl _) (argsL := []) (rest := []) (lenOf own_pd_3 rfl) rfl (by show 2 * 0 + _ ≤ _; exact Nat.le_of_eq rfl) (hb hby at_61) (fun _ _ => ⟨rfl, rfl, (by decide : 2 + 0 ≤ _), (by decide : 2 + 0 ≤ _)⟩)
  dsimp only [Pt.U, Pt.locs, Pt.cells, Pt.slots] at X37 l37 y37 z37 st37 hQ37
  subst l37 y37 z37
  obtain ⟨rfl, N37q, K37, fs37⟩ := hQ37
  have N37 := Fr.app N33 N37q
  have f38 := f34.keep K37
  have f39 := f35.keep K37
  have f40 := f36.keep K37 (ninS ne_b13_b17 nin0)
  have SZ37 : n0 ≤ T37.heap.size := Nat.le_trans SZ33 K37.1
  refine own_by (fun t k => st37.trans k) ?_
  show own_Go p e below T37 (mkF m 64 #[.val (.long sd), .second, .val (.int b0), .val (.int mk), .val (.int b), .val (.ref b13), .val (.ref b17), .val (.int (((own_bits (own_st sd kk25)) % (b.toInt64)).toInt32)), .val (.long (own_mix (own_st sd (kk25 + 1)))), .second, .val (.long (own_mix (own_st sd 1))), .second, .unset, .unset, .unset, .unset, .unset, .unset, .unset, .unset, .unset, .unset, .unset, .unset] [(.long (own_mix (own_st sd 2)))]) _
  refine own_s_lstore X37.here hx #[.val (.long sd), .second, .val (.int b0), .val (.int mk), .val (.int b), .val (.ref b13), .val (.ref b17), .val (.int (((own_bits (own_st sd kk25)) % (b.toInt64)).toInt32)), .val (.long (own_mix (own_st sd (kk25 + 1)))), .second, .val (.long (own_mix (own_st sd 1))), .second, .val (.long (own_mix (own_st sd 2))), .second, .unset, .unset, .unset, .unset, .unset, .unset, .unset, .unset, .unset, .unset] (hb hby at_64) rfl ?_
  refine own_s_aload X37.here hx (hb hby at_66) rfl rfl ?_
  obtain ⟨cq41, kq41, q41a, q41b, q41c⟩ := isOf hZ rfl f39
  obtain ⟨_, _, ⟨T41, L41, k41, n41⟩, -, X41, ⟨Lc41, hQ41, l41, y41, z41⟩, st41⟩ := X37.virtualBack hx (y := (⟨"com/example/tenderbook/tenderbook/clearing/SeededDraws", "nextLong", "()J"⟩ : MethodName)) (z := (⟨"com/example/tenderbook/tenderbook/clearing/SeededDraws", "nextLong", "()J"⟩ : MethodName)) hown (mvT hZ (hw _ (List.mem_of_getElem? (i := 25) rfl))) (mvT hZ (hw _ (List.mem_of_getElem? (i := 18) rfl))) (notFace_of_selects (args := #[]) (mvT hZ (hw _ (List.mem_of_getElem? (i := 20) rfl)))) (mvT hZ (hw _ (List.mem_of_getElem? (i := 20) rfl))) (mvT hZ (hw _ (List.mem_of_getElem? (i := 19) rfl))) (by decide) (backOf (W := 0) (own_r4 l Z a0 hw [] b17 (own_st sd 2) T37.heap n0 SZ37 f39 fs37 ge_b17) hZ (hw _ (List.mem_of_getElem? (i := 21) rfl)) (hw _ (List.mem_of_getElem? (i := 3) rfl)) (by decide) (by decide)) q41a q41c (g := (mkF m 68 #[.val (.long sd), .second, .val (.int b0), .val (.int mk), .val (.int b), .val (.ref b13), .val (.ref b17), .val (.int (((own_bits (own_st sd kk25)) % (b.toInt64)).toInt32)), .val (.long (own_mix (own_st sd (kk25 + 1)))), .second, .val (.long (own_mix (own_st sd 1))), .second, .val (.long (own_mix (own_st sd 2))), .second, .unset, .unset, .unset, .unset, .unset, .unset, .unset, .unset, .unset, .unset] [(.ref b17)])) rfl (by rw [hml]; rfl) (Steps.refl _) (argsL := []) (rest := []) (lenOf own_pd_3 rfl) rfl (by show 2 * 0 + _ ≤ _; exact Nat.le_of_eq rfl) (hb hby at_68) (fun _ _ => ⟨rfl, rfl, (by decide : 2 + 0 ≤ _), (by decide : 2 + 0 ≤ _)⟩)
  dsimp only [Pt.U, Pt.locs, Pt.cells, Pt.slots] at X41 l41 y41 z41 st41 hQ41
  subst l41 y41 z41
  obtain ⟨rfl, N41q, K41, fs41⟩ := hQ41
  have N41 := Fr.app N37 N41q
  have f42 := f38.keep K41
  have f43 := f39.keep K41
  have f44 := f40.keep K41 (ninS ne_b13_b17 nin0)
  have SZ41 : n0 ≤ T41.heap.size := Nat.le_trans SZ37 K41.1
  refine own_by (fun t k => st41.trans k) ?_
  show own_Go p e below T41 (mkF m 71 #[.val (.long sd), .second, .val (.int b0), .val (.int mk), .val (.int b), .val (.ref b13), .val (.ref b17), .val (.int (((own_bits (own_st sd kk25)) % (b.toInt64)).toInt32)), .val (.long (own_mix (own_st sd (kk25 + 1)))), .second, .val (.long (own_mix (own_st sd 1))), .second, .val (.long (own_mix (own_st sd 2))), .second, .unset, .unset, .unset, .unset, .unset, .unset, .unset, .unset, .unset, .unset] [(.long (own_mix (own_st sd 3)))]) _
  refine own_s_lstore X41.here hx #[.val (.long sd), .second, .val (.int b0), .val (.int mk), .val (.int b), .val (.ref b13), .val (.ref b17), .val (.int (((own_bits (own_st sd kk25)) % (b.toInt64)).toInt32)), .val (.long (own_mix (own_st sd (kk25 + 1)))), .second, .val (.long (own_mix (own_st sd 1))), .second, .val (.long (own_mix (own_st sd 2))), .second, .val (.long (own_mix (own_st sd 3))), .second, .unset, .unset, .unset, .unset, .unset, .unset, .unset, .unset] (hb hby at_71) rfl ?_
  refine own_s_lload X41.here hx (hb hby at_73) rfl ?_
  refine own_s_iconst X41.here hx (1 : Int32) (hb hby at_75) rfl ?_
  refine own_s_lushr X41.here hx (hb hby at_76) ?_
  show own_Go p e below T41 (mkF m 77 #[.val (.long sd), .second, .val (.int b0), .val (.int mk), .val (.int b), .val (.ref b13), .val (.ref b17), .val (.int (((own_bits (own_st sd kk25)) % (b.toInt64)).toInt32)), .val (.long (own_mix (own_st sd (kk25 + 1)))), .second, .val (.long (own_mix (own_st sd 1))), .second, .val (.long (own_mix (own_st sd 2))), .second, .val (.long (own_mix (own_st sd 3))), .second, .unset, .unset, .unset, .unset, .unset, .unset, .unset, .unset] [(.long (own_bits (own_st sd 1)))]) _
  refine own_s_lstore X41.here hx #[.val (.long sd), .second, .val (.int b0), .val (.int mk), .val (.int b), .val (.ref b13), .val (.ref b17), .val (.int (((own_bits (own_st sd kk25)) % (b.toInt64)).toInt32)), .val (.long (own_mix (own_st sd (kk25 + 1)))), .second, .val (.long (own_mix (own_st sd 1))), .second, .val (.long (own_mix (own_st sd 2))), .second, .val (.long (own_mix (own_st sd 3))), .second, .val (.long (own_bits (own_st sd 1))), .second, .unset, .unset, .unset, .unset, .unset, .unset] (hb hby at_77) rfl ?_
  refine own_s_lload X41.here hx (hb hby at_79) rfl ?_
  refine own_s_iconst X41.here hx (1 : Int32) (hb hby at_81) rfl ?_
  refine own_s_lushr X41.here hx (hb hby at_82) ?_
  show own_Go p e below T41 (mkF m 83 #[.val (.long sd), .second, .val (.int b0), .val (.int mk), .val (.int b), .val (.ref b13), .val (.ref b17), .val (.int (((own_bits (own_st sd kk25)) % (b.toInt64)).toInt32)), .val (.long (own_mix (own_st sd (kk25 + 1)))), .second, .val (.long (own_mix (own_st sd 1))), .second, .val (.long (own_mix (own_st sd 2))), .second, .val (.long (own_mix (own_st sd 3))), .second, .val (.long (own_bits (own_st sd 1))), .second, .unset, .unset, .unset, .unset, .unset, .unset] [(.long (own_bits (own_st sd 2)))]) _
  refine own_s_lstore X41.here hx #[.val (.long sd), .second, .val (.int b0), .val (.int mk), .val (.int b), .val (.ref b13), .val (.ref b17), .val (.int (((own_bits (own_st sd kk25)) % (b.toInt64)).toInt32)), .val (.long (own_mix (own_st sd (kk25 + 1)))), .second, .val (.long (own_mix (own_st sd 1))), .second, .val (.long (own_mix (own_st sd 2))), .second, .val (.long (own_mix (own_st sd 3))), .second, .val (.long (own_bits (own_st sd 1))), .second, .val (.long (own_bits (own_st sd 2))), .second, .unset, .unset, .unset, .unset] (hb hby at_83) rfl ?_
  refine own_by (fun tq_ kq_ => X41.ldc2Long hx hown (mvT hZ (hw _ (List.mem_of_getElem? (i := 26) rfl))) (g := (mkF m 85 #[.val (.long sd), .second, .val (.int b0), .val (.int mk), .val (.int b), .val (.ref b13), .val (.ref b17), .val (.int (((own_bits (own_st sd kk25)) % (b.toInt64)).toInt32)), .val (.long (own_mix (own_st sd (kk25 + 1)))), .second, .val (.long (own_mix (own_st sd 1))), .second, .val (.long (own_mix (own_st sd 2))), .second, .val (.long (own_mix (own_st sd 3))), .second, .val (.long (own_bits (own_st sd 1))), .second, .val (.long (own_bits (own_st sd 2))), .second, .unset, .unset, .unset, .unset] [])) rfl (hb hby at_85) tq_ kq_) ?_
  show own_Go p e below T41 (mkF m 88 #[.val (.long sd), .second, .val (.int b0), .val (.int mk), .val (.int b), .val (.ref b13), .val (.ref b17), .val (.int (((own_bits (own_st sd kk25)) % (b.toInt64)).toInt32)), .val (.long (own_mix (own_st sd (kk25 + 1)))), .second, .val (.long (own_mix (own_st sd 1))), .second, .val (.long (own_mix (own_st sd 2))), .second, .val (.long (own_mix (own_st sd 3))), .second, .val (.long (own_bits (own_st sd 1))), .second, .val (.long (own_bits (own_st sd 2))), .second, .unset, .unset, .unset, .unset] [(.long (9223372036854775807 : Int64))]) _
  refine own_s_iload X41.here hx (hb hby at_88) rfl ?_
  refine own_s_i2l X41.here hx (hb hby at_90) ?_
  refine own_by (fun tq_ kq_ => own_lrem X41 hx rfl (hb hby at_91) rfl (own_nzb hbb) kq_) ?_
  show own_Go p e below T41 (mkF m 92 #[.val (.long sd), .second, .val (.int b0), .val (.int mk), .val (.int b), .val (.ref b13), .val (.ref b17), .val (.int (((own_bits (own_st sd kk25)) % (b.toInt64)).toInt32)), .val (.long (own_mix (own_st sd (kk25 + 1)))), .second, .val (.long (own_mix (own_st sd 1))), .second, .val (.long (own_mix (own_st sd 2))), .second, .val (.long (own_mix (own_st sd 3))), .second, .val (.long (own_bits (own_st sd 1))), .second, .val (.long (own_bits (own_st sd 2))), .second, .unset, .unset, .unset, .unset] [(.long ((9223372036854775807 : Int64) % (b.toInt64)))]) _
  refine own_s_lconst X41.here hx (1 : Int64) (hb hby at_92) rfl ?_
  refine own_s_ladd X41.here hx (hb hby at_93) ?_
  refine own_s_iload X41.here hx (hb hby at_94) rfl ?_
  refine own_s_i2l X41.here hx (hb hby at_96) ?_
  refine own_by (fun tq_ kq_ => own_lrem X41 hx rfl (hb hby at_97) rfl (own_nzb hbb) kq_) ?_
  show own_Go p e below T41 (mkF m 98 #[.val (.long sd), .second, .val (.int b0), .val (.int mk), .val (.int b), .val (.ref b13), .val (.ref b17), .val (.int (((own_bits (own_st sd kk25)) % (b.toInt64)).toInt32)), .val (.long (own_mix (own_st sd (kk25 + 1)))), .second, .val (.long (own_mix (own_st sd 1))), .second, .val (.long (own_mix (own_st sd 2))), .second, .val (.long (own_mix (own_st sd 3))), .second, .val (.long (own_bits (own_st sd 1))), .second, .val (.long (own_bits (own_st sd 2))), .second, .unset, .unset, .unset, .unset] [(.long ((((9223372036854775807 : Int64) % (b.toInt64)) + (1 : Int64)) % (b.toInt64)))]) _
  refine own_s_lstore X41.here hx #[.val (.long sd), .second, .val (.int b0), .val (.int mk), .val (.int b), .val (.ref b13), .val (.ref b17), .val (.int (((own_bits (own_st sd kk25)) % (b.toInt64)).toInt32)), .val (.long (own_mix (own_st sd (kk25 + 1)))), .second, .val (.long (own_mix (own_st sd 1))), .second, .val (.long (own_mix (own_st sd 2))), .second, .val (.long (own_mix (own_st sd 3))), .second, .val (.long (own_bits (own_st sd 1))), .second, .val (.long (own_bits (own_st sd 2))), .second, .val (.long ((((9223372036854775807 : Int64) % (b.toInt64)) + (1 : Int64)) % (b.toInt64))), .second, .unset, .unset] (hb hby at_98) rfl ?_
  refine own_by (fun tq_ kq_ => X41.ldc2Long hx hown (mvT hZ (hw _ (List.mem_of_getElem? (i := 26) rfl))) (g := (mkF m 100 #[.val (.long sd), .second, .val (.int b0), .val (.int mk), .val (.int b), .val (.ref b13), .val (.ref b17), .val (.int (((own_bits (own_st sd kk25)) % (b.toInt64)).toInt32)), .val (.long (own_mix (own_st sd (kk25 + 1)))), .second, .val (.long (own_mix (own_st sd 1))), .second, .val (.long (own_mix (own_st sd 2))), .second, .val (.long (own_mix (own_st sd 3))), .second, .val (.long (own_bits (own_st sd 1))), .second, .val (.long (own_bits (own_st sd 2))), .second, .val (.long ((((9223372036854775807 : Int64) % (b.toInt64)) + (1 : Int64)) % (b.toInt64))), .second, .unset, .unset] [])) rfl (hb hby at_100) tq_ kq_) ?_
  show own_Go p e below T41 (mkF m 103 #[.val (.long sd), .second, .val (.int b0), .val (.int mk), .val (.int b), .val (.ref b13), .val (.ref b17), .val (.int (((own_bits (own_st sd kk25)) % (b.toInt64)).toInt32)), .val (.long (own_mix (own_st sd (kk25 + 1)))), .second, .val (.long (own_mix (own_st sd 1))), .second, .val (.long (own_mix (own_st sd 2))), .second, .val (.long (own_mix (own_st sd 3))), .second, .val (.long (own_bits (own_st sd 1))), .second, .val (.long (own_bits (own_st sd 2))), .second, .val (.long ((((9223372036854775807 : Int64) % (b.toInt64)) + (1 : Int64)) % (b.toInt64))), .second, .unset, .unset] [(.long (9223372036854775807 : Int64))]) _
  refine own_s_lload X41.here hx (hb hby at_103) rfl ?_
  refine own_s_lsub X41.here hx (hb hby at_105) ?_
  refine own_s_lstore X41.here hx #[.val (.long sd), .second, .val (.int b0), .val (.int mk), .val (.int b), .val (.ref b13), .val (.ref b17), .val (.int (((own_bits (own_st sd kk25)) % (b.toInt64)).toInt32)), .val (.long (own_mix (own_st sd (kk25 + 1)))), .second, .val (.long (own_mix (own_st sd 1))), .second, .val (.long (own_mix (own_st sd 2))), .second, .val (.long (own_mix (own_st sd 3))), .second, .val (.long (own_bits (own_st sd 1))), .second, .val (.long (own_bits (own_st sd 2))), .second, .val (.long ((((9223372036854775807 : Int64) % (b.toInt64)) + (1 : Int64)) % (b.toInt64))), .second, .val (.long ((9223372036854775807 : Int64) - ((((9223372036854775807 : Int64) % (b.toInt64)) + (1 : Int64)) % (b.toInt64)))), .second] (hb hby at_106) rfl ?_
  have hr32 := own_r32 (own_bits (own_st sd kk25)) b (own_bits_b _) hbb
  refine own_s_iload X41.here hx (hb hby at_108) rfl ?_
  refine own_s_ifNo X41.here hx (hb hby at_110) (Jvm.Free.XT.i0_lt_f hr32.1) ?_
  refine own_s_iload X41.here hx (hb hby at_113) rfl ?_
  refine own_s_iload X41.here hx (hb hby at_115) rfl ?_
  show own_Go p e below T41 (mkF m 117 #[.val (.long sd), .second, .val (.int b0), .val (.int mk), .val (.int b), .val (.ref b13), .val (.ref b17), .val (.int (((own_bits (own_st sd kk25)) % (b.toInt64)).toInt32)), .val (.long (own_mix (own_st sd (kk25 + 1)))), .second, .val (.long (own_mix (own_st sd 1))), .second, .val (.long (own_mix (own_st sd 2))), .second, .val (.long (own_mix (own_st sd 3))), .second, .val (.long (own_bits (own_st sd 1))), .second, .val (.long (own_bits (own_st sd 2))), .second, .val (.long ((((9223372036854775807 : Int64) % (b.toInt64)) + (1 : Int64)) % (b.toInt64))), .second, .val (.long ((9223372036854775807 : Int64) - ((((9223372036854775807 : Int64) % (b.toInt64)) + (1 : Int64)) % (b.toInt64)))), .second] [(.int b), (.int (((own_bits (own_st sd kk25)) % (b.toInt64)).toInt32))]) _
  refine own_s_icmpYes X41.here hx 122 (hb hby at_117) (Jvm.Free.XT.ii_lt_t hr32.2.1) (by decide) (by decide) ?_
  refine own_s_lload X41.here hx (hb hby at_122) rfl ?_
  refine own_s_lload X41.here hx (hb hby at_124) rfl ?_
  refine own_s_lcmp X41.here hx (hb hby at_126) ?_
  by_cases hc127 : ((9223372036854775807 : Int64) - ((((9223372036854775807 : Int64) % (b.toInt64)) + (1 : Int64)) % (b.toInt64))) < (own_bits (own_st sd 1))
  ·
    show own_Go p e below T41 (mkF m 127 #[.val (.long sd), .second, .val (.int b0), .val (.int mk), .val (.int b), .val (.ref b13), .val (.ref b17), .val (.int (((own_bits (own_st sd kk25)) % (b.toInt64)).toInt32)), .val (.long (own_mix (own_st sd (kk25 + 1)))), .second, .val (.long (own_mix (own_st sd 1))), .second, .val (.long (own_mix (own_st sd 2))), .second, .val (.long (own_mix (own_st sd 3))), .second, .val (.long (own_bits (own_st sd 1))), .second, .val (.long (own_bits (own_st sd 2))), .second, .val (.long ((((9223372036854775807 : Int64) % (b.toInt64)) + (1 : Int64)) % (b.toInt64))), .second, .val (.long ((9223372036854775807 : Int64) - ((((9223372036854775807 : Int64) % (b.toInt64)) + (1 : Int64)) % (b.toInt64)))), .second] [(.int (Jvm.Free.XT.cmpL (own_bits (own_st sd 1)) ((9223372036854775807 : Int64) - ((((9223372036854775807 : Int64) % (b.toInt64)) + (1 : Int64)) % (b.toInt64)))))]) _
    refine own_s_ifYes X41.here hx 157 (hb hby at_127) (Jvm.Free.XT.ll_gt_t hc127) (by decide) (by decide) ?_
    refine own_s_lload X41.here hx (hb hby at_157) rfl ?_
    refine own_s_lload X41.here hx (hb hby at_159) rfl ?_
    refine own_s_lcmp X41.here hx (hb hby at_161) ?_
    by_cases hc162 : ((9223372036854775807 : Int64) - ((((9223372036854775807 : Int64) % (b.toInt64)) + (1 : Int64)) % (b.toInt64))) < (own_bits (own_st sd 2))
    ·
      show own_Go p e below T41 (mkF m 162 #[.val (.long sd), .second, .val (.int b0), .val (.int mk), .val (.int b), .val (.ref b13), .val (.ref b17), .val (.int (((own_bits (own_st sd kk25)) % (b.toInt64)).toInt32)), .val (.long (own_mix (own_st sd (kk25 + 1)))), .second, .val (.long (own_mix (own_st sd 1))), .second, .val (.long (own_mix (own_st sd 2))), .second, .val (.long (own_mix (own_st sd 3))), .second, .val (.long (own_bits (own_st sd 1))), .second, .val (.long (own_bits (own_st sd 2))), .second, .val (.long ((((9223372036854775807 : Int64) % (b.toInt64)) + (1 : Int64)) % (b.toInt64))), .second, .val (.long ((9223372036854775807 : Int64) - ((((9223372036854775807 : Int64) % (b.toInt64)) + (1 : Int64)) % (b.toInt64)))), .second] [(.int (Jvm.Free.XT.cmpL (own_bits (own_st sd 2)) ((9223372036854775807 : Int64) - ((((9223372036854775807 : Int64) % (b.toInt64)) + (1 : Int64)) % (b.toInt64)))))]) _
      refine own_s_ifYes X41.here hx 192 (hb hby at_162) (Jvm.Free.XT.ll_gt_t hc162) (by decide) (by decide) ?_
      refine own_s_iconst X41.here hx (1 : Int32) (hb hby at_192) rfl ?_
      refine own_retZ X41 hx hret hlk (hb hby at_193) rfl (by decide) (by decide) ?_
      exact ⟨rfl, N41⟩
    ·
      refine own_s_ifNo X41.here hx (hb hby at_162) (Jvm.Free.XT.ll_gt_f hc162) ?_
      have hk := own_two hf25 ((own_lim _ b hbb).mp hc127) (Classical.not_not.mp (fun q => hc162 ((own_lim _ b hbb).mpr q)))
      subst hk
      show own_Go p e below T41 (mkF m 165 #[.val (.long sd), .second, .val (.int b0), .val (.int mk), .val (.int b), .val (.ref b13), .val (.ref b17), .val (.int (((own_bits (own_st sd 2)) % (b.toInt64)).toInt32)), .val (.long (own_mix (own_st sd (2 + 1)))), .second, .val (.long (own_mix (own_st sd 1))), .second, .val (.long (own_mix (own_st sd 2))), .second, .val (.long (own_mix (own_st sd 3))), .second, .val (.long (own_bits (own_st sd 1))), .second, .val (.long (own_bits (own_st sd 2))), .second, .val (.long ((((9223372036854775807 : Int64) % (b.toInt64)) + (1 : Int64)) % (b.toInt64))), .second, .val (.long ((9223372036854775807 : Int64) - ((((9223372036854775807 : Int64) % (b.toInt64)) + (1 : Int64)) % (b.toInt64)))), .second] []) _
      refine own_s_iload X41.here hx (hb hby at_165) rfl ?_
      refine own_s_i2l X41.here hx (hb hby at_167) ?_
      refine own_s_lload X41.here hx (hb hby at_168) rfl ?_
      refine own_s_iload X41.here hx (hb hby at_170) rfl ?_
      refine own_s_i2l X41.here hx (hb hby at_172) ?_
      refine own_by (fun tq_ kq_ => own_lrem X41 hx rfl (hb hby at_173) rfl (own_nzb hbb) kq_) ?_
      show own_Go p e below T41 (mkF m 174 #[.val (.long sd), .second, .val (.int b0), .val (.int mk), .val (.int b), .val (.ref b13), .val (.ref b17), .val (.int (((own_bits (own_st sd 2)) % (b.toInt64)).toInt32)), .val (.long (own_mix (own_st sd (2 + 1)))), .second, .val (.long (own_mix (own_st sd 1))), .second, .val (.long (own_mix (own_st sd 2))), .second, .val (.long (own_mix (own_st sd 3))), .second, .val (.long (own_bits (own_st sd 1))), .second, .val (.long (own_bits (own_st sd 2))), .second, .val (.long ((((9223372036854775807 : Int64) % (b.toInt64)) + (1 : Int64)) % (b.toInt64))), .second, .val (.long ((9223372036854775807 : Int64) - ((((9223372036854775807 : Int64) % (b.toInt64)) + (1 : Int64)) % (b.toInt64)))), .second] [(.long ((own_bits (own_st sd 2)) % (b.toInt64))), (.long ((((own_bits (own_st sd 2)) % (b.toInt64)).toInt32).toInt64))]) _
      refine own_s_lcmp X41.here hx (hb hby at_174) ?_
      refine own_s_ifNo X41.here hx (hb hby at_175) (Jvm.Free.XT.ll_ne_f hr32.2.2) ?_
      refine own_s_lload X41.here hx (hb hby at_178) rfl ?_
      refine own_s_lload X41.here hx (hb hby at_180) rfl ?_
      refine own_s_lcmp X41.here hx (hb hby at_182) ?_
      refine own_s_ifNo X41.here hx (hb hby at_183) (Jvm.Free.XT.ll_ne_f rfl) ?_
      refine own_s_iconst X41.here hx (1 : Int32) (hb hby at_186) rfl ?_
      show own_Go p e below T41 (mkF m 187 #[.val (.long sd), .second, .val (.int b0), .val (.int mk), .val (.int b), .val (.ref b13), .val (.ref b17), .val (.int (((own_bits (own_st sd 2)) % (b.toInt64)).toInt32)), .val (.long (own_mix (own_st sd (2 + 1)))), .second, .val (.long (own_mix (own_st sd 1))), .second, .val (.long (own_mix (own_st sd 2))), .second, .val (.long (own_mix (own_st sd 3))), .second, .val (.long (own_bits (own_st sd 1))), .second, .val (.long (own_bits (own_st sd 2))), .second, .val (.long ((((9223372036854775807 : Int64) % (b.toInt64)) + (1 : Int64)) % (b.toInt64))), .second, .val (.long ((9223372036854775807 : Int64) - ((((9223372036854775807 : Int64) % (b.toInt64)) + (1 : Int64)) % (b.toInt64)))), .second] [(.int (1 : Int32))]) _
      refine own_s_goto X41.here hx 191 (hb hby at_187) (by decide) (by decide) ?_
      refine own_retZ X41 hx hret hlk (hb hby at_191) rfl (by decide) (by decide) ?_
      exact ⟨rfl, N41⟩
  ·
    refine own_s_ifNo X41.here hx (hb hby at_127) (Jvm.Free.XT.ll_gt_f hc127) ?_
    have hk := own_one hf25 (Classical.not_not.mp (fun q => hc127 ((own_lim _ b hbb).mpr q)))
    subst hk
    show own_Go p e below T41 (mkF m 130 #[.val (.long sd), .second, .val (.int b0), .val (.int mk), .val (.int b), .val (.ref b13), .val (.ref b17), .val (.int (((own_bits (own_st sd 1)) % (b.toInt64)).toInt32)), .val (.long (own_mix (own_st sd (1 + 1)))), .second, .val (.long (own_mix (own_st sd 1))), .second, .val (.long (own_mix (own_st sd 2))), .second, .val (.long (own_mix (own_st sd 3))), .second, .val (.long (own_bits (own_st sd 1))), .second, .val (.long (own_bits (own_st sd 2))), .second, .val (.long ((((9223372036854775807 : Int64) % (b.toInt64)) + (1 : Int64)) % (b.toInt64))), .second, .val (.long ((9223372036854775807 : Int64) - ((((9223372036854775807 : Int64) % (b.toInt64)) + (1 : Int64)) % (b.toInt64)))), .second] []) _
    refine own_s_iload X41.here hx (hb hby at_130) rfl ?_
    refine own_s_i2l X41.here hx (hb hby at_132) ?_
    refine own_s_lload X41.here hx (hb hby at_133) rfl ?_
    refine own_s_iload X41.here hx (hb hby at_135) rfl ?_
    refine own_s_i2l X41.here hx (hb hby at_137) ?_
    refine own_by (fun tq_ kq_ => own_lrem X41 hx rfl (hb hby at_138) rfl (own_nzb hbb) kq_) ?_
    show own_Go p e below T41 (mkF m 139 #[.val (.long sd), .second, .val (.int b0), .val (.int mk), .val (.int b), .val (.ref b13), .val (.ref b17), .val (.int (((own_bits (own_st sd 1)) % (b.toInt64)).toInt32)), .val (.long (own_mix (own_st sd (1 + 1)))), .second, .val (.long (own_mix (own_st sd 1))), .second, .val (.long (own_mix (own_st sd 2))), .second, .val (.long (own_mix (own_st sd 3))), .second, .val (.long (own_bits (own_st sd 1))), .second, .val (.long (own_bits (own_st sd 2))), .second, .val (.long ((((9223372036854775807 : Int64) % (b.toInt64)) + (1 : Int64)) % (b.toInt64))), .second, .val (.long ((9223372036854775807 : Int64) - ((((9223372036854775807 : Int64) % (b.toInt64)) + (1 : Int64)) % (b.toInt64)))), .second] [(.long ((own_bits (own_st sd 1)) % (b.toInt64))), (.long ((((own_bits (own_st sd 1)) % (b.toInt64)).toInt32).toInt64))]) _
    refine own_s_lcmp X41.here hx (hb hby at_139) ?_
    refine own_s_ifNo X41.here hx (hb hby at_140) (Jvm.Free.XT.ll_ne_f hr32.2.2) ?_
    refine own_s_lload X41.here hx (hb hby at_143) rfl ?_
    refine own_s_lload X41.here hx (hb hby at_145) rfl ?_
    refine own_s_lcmp X41.here hx (hb hby at_147) ?_
    refine own_s_ifNo X41.here hx (hb hby at_148) (Jvm.Free.XT.ll_ne_f rfl) ?_
    refine own_s_iconst X41.here hx (1 : Int32) (hb hby at_151) rfl ?_
    show own_Go p e below T41 (mkF m 152 #[.val (.long sd), .second, .val (.int b0), .val (.int mk), .val (.int b), .val (.ref b13), .val (.ref b17), .val (.int (((own_bits (own_st sd 1)) % (b.toInt64)).toInt32)), .val (.long (own_mix (own_st sd (1 + 1)))), .second, .val (.long (own_mix (own_st sd 1))), .second, .val (.long (own_mix (own_st sd 2))), .second, .val (.long (own_mix (own_st sd 3))), .second, .val (.long (own_bits (own_st sd 1))), .second, .val (.long (own_bits (own_st sd 2))), .second, .val (.long ((((9223372036854775807 : Int64) % (b.toInt64)) + (1 : Int64)) % (b.toInt64))), .second, .val (.long ((9223372036854775807 : Int64) - ((((9223372036854775807 : Int64) % (b.toInt64)) + (1 : Int64)) % (b.toInt64)))), .second] [(.int (1 : Int32))]) _
    refine own_s_goto X41.here hx 156 (hb hby at_152) (by decide) (by decide) ?_
    refine own_retZ X41 hx hret hlk (hb hby at_156) rfl (by decide) (by decide) ?_
    exact ⟨rfl, N41⟩
theorem own_ml : maxLocals = 24 := rfl
theorem own_ef0 (m : MethodId) (sd : Int64) (b0 : Int32) : entryFrame m #[(.long sd), (.int b0)] maxLocals = mkF m 0 #[.val (.long sd), .second, .val (.int b0), .unset, .unset, .unset, .unset, .unset, .unset, .unset, .unset, .unset, .unset, .unset, .unset, .unset, .unset, .unset, .unset, .unset, .unset, .unset, .unset, .unset] [] := by first | (simp [entryFrame, mkF, argsToLocals, Value.category, maxLocals]; done) | rfl
def own_q_own_r0 (Z : State) (sd : Int64) (b0 : Int32) (h0 : Heap) (n0 : Nat) (v : Option Value) (h : Heap) (L : List Loc) : Prop := v = some (.int 1) ∧ Fr n0 L
set_option maxRecDepth 65536 in
set_option maxHeartbeats 40000000 in
theorem own_r0 (l : Launch) (Z : State) (a0 : Array Value) (hw : ∀ d ∈ tables_1, d.before a0 Z = true) (ws : List Jvm.Cond) (sd : Int64) (b0 : Int32) (h0 : Heap) (n0 : Nat) (Z0 : n0 ≤ h0.size) :
    MetFree l x (head1 (Jvm.Cond.code x code maxLocals ret :: ws) room_1) (fun a U => a = #[(.long sd), (.int b0)] ∧ Z.Warmed39 U.vm ∧ U.heap = h0) (fun _ _ _ _ _ => True) (fun _ U o U' => ∃ v L, o = .returned v ∧ own_q_own_r0 Z sd b0 h0 n0 v U'.heap L ∧ FrameEnd U o U' L 16 128) := by
  refine MetFree.of_bodySF (plainFor_of_name own_pn_SeededDrawsNextBelowPinLaw) hisR ?_
  intro p e s m args below meth c T0 Bd hml0 hP hK
  obtain ⟨rfl, hZ, hh⟩ := hP
  have hx := Bd.exec
  have hby := Bd.bytes
  have hml : c.maxLocals = 24 := hml0
  have hown : s.vm.findClass "com/example/tenderbook/tenderbook/clearing/SeededDrawsNextBelowPinLaw" = some m.cls := findClass_of_methodNamed Bd.named
  have hnm := (name_of_methodNamed Bd.named Bd.method).1
  have hret : meth.sig.returnType = (some .boolean) := Bd.returns
  have hlk : meth.locks = false := BodyLoose.notSynchronized Bd
  have X0 : Stand p l e room_1 s m #[(.long sd), (.int b0)] below meth c T0 [] 0 0 := Stand.of_body Bd
  have e0 : T0.heap = h0 := by rw [← hh, Bd.state]; rfl
  have N0 := Fr.nil n0
  refine own_start (own_ef0 m sd b0) (Q := fun (v : Option Value) (h : Heap) (L : List Loc) => v = some (.int 1) ∧ Fr n0 L) (k := 16) (j := 128) ?_
  show own_Go p e below T0 (mkF m 0 #[.val (.long sd), .second, .val (.int b0), .unset, .unset, .unset, .unset, .unset, .unset, .unset, .unset, .unset, .unset, .unset, .unset, .unset, .unset, .unset, .unset, .unset, .unset, .unset, .unset, .unset] []) _
  refine own_s_iloadN X0.here hx (hb hby at_0) rfl ?_
  refine own_by (fun tq_ kq_ => X0.ldcInt hx hown (mvT hZ (hw _ (List.mem_of_getElem? (i := 0) rfl))) (g := (mkF m 1 #[.val (.long sd), .second, .val (.int b0), .unset, .unset, .unset, .unset, .unset, .unset, .unset, .unset, .unset, .unset, .unset, .unset, .unset, .unset, .unset, .unset, .unset, .unset, .unset, .unset, .unset] [(.int b0)])) rfl (hb hby at_1) tq_ kq_) ?_
  show own_Go p e below T0 (mkF m 3 #[.val (.long sd), .second, .val (.int b0), .unset, .unset, .unset, .unset, .unset, .unset, .unset, .unset, .unset, .unset, .unset, .unset, .unset, .unset, .unset, .unset, .unset, .unset, .unset, .unset, .unset] [(.int (2147483647 : Int32)), (.int b0)]) _
  refine own_s_iand X0.here hx (hb hby at_3) ?_
  refine own_s_istoreN X0.here hx #[.val (.long sd), .second, .val (.int b0), .val (.int (b0 &&& (2147483647 : Int32))), .unset, .unset, .unset, .unset, .unset, .unset, .unset, .unset, .unset, .unset, .unset, .unset, .unset, .unset, .unset, .unset, .unset, .unset, .unset, .unset] (hb hby at_4) rfl ?_
  refine own_s_iloadN X0.here hx (hb hby at_5) rfl ?_
  by_cases hc6 : (b0 &&& (2147483647 : Int32)) = 0
  ·
    refine own_s_ifNo X0.here hx (hb hby at_6) (Jvm.Free.XT.i0_ne_f hc6) ?_
    refine own_s_iconst X0.here hx (1 : Int32) (hb hby at_9) rfl ?_
    show own_Go p e below T0 (mkF m 10 #[.val (.long sd), .second, .val (.int b0), .val (.int (b0 &&& (2147483647 : Int32))), .unset, .unset, .unset, .unset, .unset, .unset, .unset, .unset, .unset, .unset, .unset, .unset, .unset, .unset, .unset, .unset, .unset, .unset, .unset, .unset] [(.int (1 : Int32))]) _
    refine own_s_goto X0.here hx 14 (hb hby at_10) (by decide) (by decide) ?_
    refine own_s_istore X0.here hx #[.val (.long sd), .second, .val (.int b0), .val (.int (b0 &&& (2147483647 : Int32))), .val (.int (1 : Int32)), .unset, .unset, .unset, .unset, .unset, .unset, .unset, .unset, .unset, .unset, .unset, .unset, .unset, .unset, .unset, .unset, .unset, .unset, .unset] (hb hby at_14) rfl ?_
    exact own_p16 hx hZ hw hby hml hown hnm hret hlk  sd b0 (b0 &&& (2147483647 : Int32)) (1 : Int32) X0 e0 N0 Z0 (by decide)
  ·
    show own_Go p e below T0 (mkF m 6 #[.val (.long sd), .second, .val (.int b0), .val (.int (b0 &&& (2147483647 : Int32))), .unset, .unset, .unset, .unset, .unset, .unset, .unset, .unset, .unset, .unset, .unset, .unset, .unset, .unset, .unset, .unset, .unset, .unset, .unset, .unset] [(.int (b0 &&& (2147483647 : Int32)))]) _
    refine own_s_ifYes X0.here hx 13 (hb hby at_6) (Jvm.Free.XT.i0_ne_t hc6) (by decide) (by decide) ?_
    refine own_s_iloadN X0.here hx (hb hby at_13) rfl ?_
    refine own_s_istore X0.here hx #[.val (.long sd), .second, .val (.int b0), .val (.int (b0 &&& (2147483647 : Int32))), .val (.int (b0 &&& (2147483647 : Int32))), .unset, .unset, .unset, .unset, .unset, .unset, .unset, .unset, .unset, .unset, .unset, .unset, .unset, .unset, .unset, .unset, .unset, .unset, .unset] (hb hby at_14) rfl ?_
    exact own_p16 hx hZ hw hby hml hown hnm hret hlk  sd b0 (b0 &&& (2147483647 : Int32)) (b0 &&& (2147483647 : Int32)) X0 e0 N0 Z0 (own_cpos b0 hc6)
set_option maxRecDepth 65536 in
set_option maxHeartbeats 40000000 in
theorem own_comes {Post : Tables → Env → Array Value → State → Outcome → State → Prop} (hpost : ∀ tb e args s v u, (limb_1_1.after args s (.returned v) u = true ∧ limb_1_2.after args s (.returned v) u = true ∧ True) → FrameEnd s (.returned v) u (Jvm.fieldLocs frame_1_writes args s ++ Jvm.arrayLocs frame_1_arrays args s ++ Jvm.staticLocs frame_1_statics s) 16 128 → Post tb e args s (.returned v) u) :
    ArmFor flags0 classFile x code maxLocals ret World_1 tables_1 room_1 Calls_1 rest_1 Pre_1 Post := by
  intro l hfl _ _ p e ha hc hk s m args below hf hA hF happ hP
  obtain ⟨hcalls, hrest, hpre⟩ := hP
  obtain ⟨-, -, -, hnamed, -, -, -, hat⟩ := (Spec.applies_iff hf).mp happ
  obtain ⟨hg, hn⟩ := and_e (Cond.before_iff.mp (show (Jvm.Cond.and given_1 narrow_1).before args s = true from hpre))
  obtain ⟨g1, g2⟩ := and_e hg
  obtain ⟨g3, g4⟩ := and_e g2
  obtain ⟨w0, w1, rfl⟩ : ∃ w0 w1 : Value, args = #[w0, w1] := by
    have hs : args.size = 2 := by simpa [Cond.value, given_1] using g1
    obtain ⟨L⟩ := args
    match L, hs with
    | [w0, w1], _ => exact ⟨w0, w1, rfl⟩
  have hw := fun d (hd : d ∈ tables_1) => atoms_spec (ws := Jvm.Cond.code x code maxLocals ret :: tables_1) hat d (List.mem_cons_of_mem _ hd)
  obtain ⟨i0, ei0⟩ := isL_v g3
  obtain rfl : w0 = (.long i0) := Option.some.inj ei0
  obtain ⟨i1, ei1⟩ := is_v g4
  obtain rfl : w1 = (.int i1) := Option.some.inj ei1
  obtain ⟨n, o, h1, h2, h3, _, L, rfl, ⟨rfl, N⟩, hq⟩ := own_r0 l s _ hw tables_1 i0 i1 s.heap s.heap.size (Nat.le_refl _) p e ha hc hk s m _ below hf ((Spec.applies_iff_loose hf).mp happ).1 ⟨rfl, State.Warmed39.refl s, rfl⟩ trivial
  refine ⟨n, _, h1, h2, h3, hpost _ _ _ _ _ _ ⟨Cond.after_iff.mpr rfl, Cond.after_iff.mpr (eq_i res_at (Term.int_eval (1)) rfl), trivial⟩ ⟨hq.1, hq.2.1, (hq.2.2.sift fun y hy => Or.inr (N y hy)).mono (by decide) (by decide)⟩⟩
theorem main_1_1 : Claimed_1_1 := own_comes fun _ _ _ _ _ _ h hF => ⟨h.1, hF⟩
theorem main_1_2 : Claimed_1_2 := own_comes fun _ _ _ _ _ _ h hF => ⟨h.2.1, hF⟩
end Jvm.Pilot.@@N@@
namespace Jvm.Pilot.@@N@@
open Jvm Jvm.ClassFile Sem Op Lib Jvm.Free Jvm.Stand Jvm.Pilot.@@N@@.Jvm.D
/-! MADE BY PROGRAM (witnessworld.py) out of the Statement's table words and the real class files: 10 classes; the members and pool entries that the words name. The judged class is class 1, her method 1. -/
namespace start1
open Jvm.ClassFile
def u (s : String) : CpInfo := .utf8 (stringToUtf16 s)
/-- a pool by its gaps: so many unusable entries, then the entry; so many at the end -/
def gap : Nat → List CpInfo → List CpInfo
  | 0, r => r
  | n + 1, r => .unusable :: gap n r
def poolList (es : List (Nat × CpInfo)) (last : Nat) : List CpInfo := es.foldr (fun e r => gap e.1 (e.2 :: r)) (gap last [])
def pool (es : List (Nat × CpInfo)) (last : Nat) : Array CpInfo := ⟨poolList es last⟩
def fileOf (pool : Array CpInfo) (this : Nat) (attrs : Array Attribute := #[]) (ms : Array MethodInfo := #[]) (fl : Nat := 33) (sup : Nat := 0) (ifs : Array Nat := #[]) (fds : Array FieldInfo := #[]) : ClassFile where
  minorVersion := 0
  majorVersion := 65
  constantPool := pool
  accessFlags := fl
  thisClass := this
  superClass := sup
  interfaces := ifs
  fields := fds
  methods := ms
  attributes := attrs
def plain (name : String) (sup : Option ClassId) : Class where
  name := name
  kind := .ordinary
  loader := none
  accessFlags := 33
  super := sup
  interfaces := #[]
  cf := none
  fields := #[]
  methods := #[]
  instanceTypes := #[]
  staticTypes := #[]
  resolved := #[]
  callSites := []
  init := .initialized
  statics := none
  mirror := none

def pool0 : Array CpInfo := pool [(5, u "<init>"), (0, u "()V"), (1, .class_ 10), (1, u "java/lang/Object")] 113

def k0c0 : Code := { maxStack := 0, maxLocals := 1, code := object_method_1_code, exceptionTable := #[], attributes := #[] }
def k0m0 : Method := { name := "<init>", desc := "()V", sig := { parameters := [], returnType := none }, accessFlags := 1, code := some k0c0 }
/-- java/lang/Object -/
def k0 : Class := { plain "java/lang/Object" none with
  accessFlags := 33
  interfaces := #[]
  cf := some (fileOf pool0 8 #[] #[{ accessFlags := 1, nameIndex := 5, descriptorIndex := 6, attributes := #[] }] 33 0 #[] #[])
  fields := #[]
  methods := #[k0m0]
  instanceTypes := #[]
  staticTypes := #[]
  resolved := Array.replicate 124 none
  statics := none }

def pool1 : Array CpInfo := pool [(2, .class_ 4), (1, u "java/lang/Object"), (0, u "<init>"), (0, u "()V"), (0, .integer 2147483647), (0, .class_ 9), (0, u "com/example/tenderbook/tenderbook/clearing/SeededDraws"), (0, .methodref 8 11), (0, .nameAndType 5 12), (0, u "(J)V"), (0, .methodref 8 14), (0, .nameAndType 15 16), (0, u "nextBelow"), (0, u "(I)I"), (0, .methodref 8 18), (0, .nameAndType 19 20), (0, u "nextLong"), (0, u "()J"), (2, .long 9223372036854775807), (1, .class_ 26), (0, u "com/example/tenderbook/tenderbook/clearing/SeededDrawsNextBelowPinLaw"), (2, u "law"), (0, u "(JI)Z")] 3

def k1m0 : Method := { name := "<init>", desc := "()V", sig := { parameters := [], returnType := none }, accessFlags := 1, code := none }
def k1c1 : Code := { maxStack := 6, maxLocals := 24, code := code, exceptionTable := #[], attributes := #[] }
def k1m1 : Method := { name := "law", desc := "(JI)Z", sig := { parameters := [.long, .int], returnType := some .boolean }, accessFlags := 9, code := some k1c1 }
/-- com/example/tenderbook/tenderbook/clearing/SeededDrawsNextBelowPinLaw -/
def k1 : Class := { plain "com/example/tenderbook/tenderbook/clearing/SeededDrawsNextBelowPinLaw" (some 0) with
  accessFlags := 49
  interfaces := #[]
  cf := some (fileOf pool1 25 #[] #[{ accessFlags := 1, nameIndex := 5, descriptorIndex := 6, attributes := #[] }, { accessFlags := 9, nameIndex := 29, descriptorIndex := 30, attributes := #[] }] 49 2 #[] #[])
  fields := #[]
  methods := #[k1m0, k1m1]
  instanceTypes := #[]
  staticTypes := #[]
  resolved := Array.replicate 34 none
  statics := none }

def pool2 : Array CpInfo := pool [(1, .class_ 2), (0, u "com/example/tenderbook/tenderbook/clearing/DrawSource"), (0, .class_ 4), (0, u "java/lang/Object")] 10

/-- com/example/tenderbook/tenderbook/clearing/DrawSource -/
def k2 : Class := { plain "com/example/tenderbook/tenderbook/clearing/DrawSource" (some 0) with
  accessFlags := 1537
  interfaces := #[]
  cf := some (fileOf pool2 1 #[] #[] 1537 3 #[] #[])
  fields := #[]
  methods := #[]
  instanceTypes := #[]
  staticTypes := #[]
  resolved := Array.replicate 15 none
  statics := none }

def pool3 : Array CpInfo := pool [(1, .methodref 2 3), (0, .class_ 4), (0, .nameAndType 5 6), (0, u "java/lang/Object"), (0, u "<init>"), (0, u "()V"), (0, .fieldref 8 9), (0, .class_ 10), (0, .nameAndType 11 12), (0, u "com/example/tenderbook/tenderbook/clearing/SeededDraws"), (0, u "state"), (0, u "J"), (8, u "nextBelow"), (0, u "(I)I"), (0, .methodref 8 24), (0, .nameAndType 25 26), (0, u "nextLong"), (0, u "()J"), (0, .long 11400714819323198485), (1, .long 13787848793156543929), (1, .long 10723151780598845931), (1, .class_ 34), (0, u "com/example/tenderbook/tenderbook/clearing/DrawSource"), (0, u "GOLDEN_GAMMA"), (1, u "MIX_MULTIPLIER_1"), (0, u "MIX_MULTIPLIER_2"), (0, u "(J)V")] 9

def k3c0 : Code := { maxStack := 3, maxLocals := 3, code := prog_21_method_1_code, exceptionTable := #[], attributes := #[] }
def k3m0 : Method := { name := "<init>", desc := "(J)V", sig := { parameters := [.long], returnType := none }, accessFlags := 1, code := some k3c0 }
def k3c1 : Code := { maxStack := 4, maxLocals := 6, code := prog_21_method_3_code, exceptionTable := #[], attributes := #[] }
def k3m1 : Method := { name := "nextBelow", desc := "(I)I", sig := { parameters := [.int], returnType := some .int }, accessFlags := 0, code := some k3c1 }
def k3c2 : Code := { maxStack := 5, maxLocals := 3, code := prog_21_method_4_code, exceptionTable := #[], attributes := #[] }
def k3m2 : Method := { name := "nextLong", desc := "()J", sig := { parameters := [], returnType := some .long }, accessFlags := 0, code := some k3c2 }
/-- com/example/tenderbook/tenderbook/clearing/SeededDraws -/
def k3 : Class := { plain "com/example/tenderbook/tenderbook/clearing/SeededDraws" (some 0) with
  accessFlags := 49
  interfaces := #[2]
  cf := some (fileOf pool3 8 #[] #[{ accessFlags := 1, nameIndex := 5, descriptorIndex := 39, attributes := #[] }, { accessFlags := 0, nameIndex := 21, descriptorIndex := 22, attributes := #[] }, { accessFlags := 0, nameIndex := 25, descriptorIndex := 26, attributes := #[] }] 49 2 #[33] #[{ accessFlags := 26, nameIndex := 35, descriptorIndex := 12, attributes := #[] }, { accessFlags := 26, nameIndex := 37, descriptorIndex := 12, attributes := #[] }, { accessFlags := 26, nameIndex := 38, descriptorIndex := 12, attributes := #[] }, { accessFlags := 2, nameIndex := 11, descriptorIndex := 12, attributes := #[] }])
  fields := #[{ name := "GOLDEN_GAMMA", type := .long, accessFlags := 26, slot := 0, constantValue := 0 }, { name := "MIX_MULTIPLIER_1", type := .long, accessFlags := 26, slot := 1, constantValue := 0 }, { name := "MIX_MULTIPLIER_2", type := .long, accessFlags := 26, slot := 2, constantValue := 0 }, { name := "state", type := .long, accessFlags := 2, slot := 0, constantValue := 0 }]
  methods := #[k3m0, k3m1, k3m2]
  instanceTypes := #[.long]
  staticTypes := #[.long, .long, .long]
  resolved := Array.replicate 49 none
  statics := none }

def pool4 : Array CpInfo := pool [(1, u "java/lang/Cloneable"), (0, .class_ 1), (0, u "java/lang/Object"), (0, .class_ 3)] 3

/-- java/lang/Cloneable -/
def k4 : Class := { plain "java/lang/Cloneable" (some 0) with
  accessFlags := 1537
  interfaces := #[]
  cf := some (fileOf pool4 2 #[] #[] 1537 4 #[] #[])
  fields := #[]
  methods := #[]
  instanceTypes := #[]
  staticTypes := #[]
  resolved := Array.replicate 8 none
  statics := none }

def pool5 : Array CpInfo := pool [(1, u "java/io/Serializable"), (0, .class_ 1), (0, u "java/lang/Object"), (0, .class_ 3)] 3

/-- java/io/Serializable -/
def k5 : Class := { plain "java/io/Serializable" (some 0) with
  accessFlags := 1537
  interfaces := #[]
  cf := some (fileOf pool5 2 #[] #[] 1537 4 #[] #[])
  fields := #[]
  methods := #[]
  instanceTypes := #[]
  staticTypes := #[]
  resolved := Array.replicate 8 none
  statics := none }

/-- the primitive byte -/
def k6 : Class := { plain "byte" none with kind := .primitive 'B', accessFlags := 0x411 }
/-- [B -/
def k7 : Class := { plain "[B" (some 0) with kind := .array 6 .byte, interfaces := #[4, 5], accessFlags := 1041 }

/-- the primitive int -/
def k8 : Class := { plain "int" none with kind := .primitive 'I', accessFlags := 0x411 }
/-- [I -/
def k9 : Class := { plain "[I" (some 0) with kind := .array 8 .int, interfaces := #[4, 5], accessFlags := 1041 }

def heap : Heap := #[]
def classes : Array Class := #[k0, k1, k2, k3, k4, k5, k6, k7, k8, k9]
def interned : List (Array UInt16 × Addr) := []
def slotsUsed : Nat := 0
def theMethod : MethodId := ⟨1, 1⟩
def args0 : Array Value := #[.long 5, .int 5]
def aboutOver (below : List Frame) : State where
  vm := { classes := classes, interned := interned.toArray }
  heap := heap
  slotsUsed := slotsUsed
  threads := #[{ frames := .invoking theMethod args0 :: below }]
def below0 : List Frame := [.native { method := ⟨0, 0⟩, args := #[] }]
def about1 : State := aboutOver below0
def p0 : Program := .bare "" "" ""
def e0 : Env := launch0.env 0 0 0
theorem w_frames : about1.frames = Frame.invoking theMethod args0 :: below0 := rfl
set_option maxRecDepth 65536 in
theorem w_args : argsFit about1.vm theMethod args0 = true := by decide +kernel
set_option maxRecDepth 65536 in
theorem w_heap : heapFits about1 = true := by decide +kernel
set_option maxRecDepth 65536 in
theorem w_runnable : about1.curStatus? = some .runnable := by decide +kernel
set_option maxRecDepth 65536 in
theorem w_alone : about1.alone = true := by decide +kernel
set_option maxRecDepth 65536 in
theorem w_named : about1.methodNamed? x = some theMethod := by decide +kernel
set_option maxRecDepth 65536 in
theorem w_hears : about1.hears theMethod below0 = true := by decide +kernel
set_option maxRecDepth 65536 in
theorem w_ripe : about1.ripe theMethod args0 below0 = true := by decide +kernel
theorem w_running : about1.status = .running := rfl
set_option maxRecDepth 65536 in
theorem w_room : about1.hasRoom e0.platform room_1 = true :=
  launch0.hasRoom_least _ room_1 (by decide +kernel) (by decide +kernel) (by decide +kernel) (by decide +kernel) (by decide +kernel) (by decide +kernel)
theorem allAtoms_all (ts : List Jvm.Cond) (a : Array Jvm.Value) (st : Jvm.State) : (allAtoms ts).before a st = ts.all (fun c => c.before a st) := by
  induction ts with
  | nil => rfl
  | cons c t ih =>
    show (Jvm.Cond.and c (allAtoms t)).before a st = _
    rw [Jvm.Cond.before_and, ih, List.all_cons]
def words1 : List Jvm.Cond := Jvm.Cond.code x code maxLocals ret :: tables_1
/-- a 'code' word, met by the world's own term for the bytes: nothing is compared byte by byte -/
theorem code_word {y : MethodName} {bytes : ByteArray} {mx : Nat} {rt : Option FieldType} {a : Array Value} {s : State} {m : MethodId} {meth : Method} {c : Code} (h1 : s.methodNamed? y = some m) (h2 : s.vm.method? m = some meth) (h3 : meth.code = some c) (h4 : c.code = bytes)
    (h5 : (c.maxLocals == mx && c.exceptionTable.isEmpty && decide (c.maxStack ≤ mostOperands) && decide (meth.sig.returnType = rt) && !meth.locks && decide (parseMethodDescriptor y.desc = some meth.sig)) = true) : (Jvm.Cond.code y bytes mx rt).before a s = true := by
  simp only [Bool.and_eq_true, beq_iff_eq, Bool.not_eq_true', decide_eq_true_eq] at h5
  obtain ⟨⟨⟨⟨⟨g1, g2⟩, g3⟩, g4⟩, g5⟩, g6⟩ := h5
  simp [Cond.before, Cond.holds, Cond.value, h1, h2, h3, h4, g1, g2, g3, g4, g5, g6]
def isCode : Jvm.Cond → Bool
  | .code _ _ _ _ => true
  | _ => false
theorem all_split {L : List Jvm.Cond} {P : Jvm.Cond → Bool} (h1 : L.all (fun c => isCode c || P c) = true) (h2 : ∀ c ∈ L.filter isCode, P c = true) : L.all P = true := by
  refine List.all_eq_true.mpr fun c hc => ?_
  have h := List.all_eq_true.mp h1 c hc
  rcases Bool.eq_false_or_eq_true (isCode c) with hi | hi
  · exact h2 c (List.mem_filter.mpr ⟨hc, hi⟩)
  · simpa [hi] using h
set_option maxRecDepth 65536 in
theorem w_c0 : (Jvm.Cond.code x code maxLocals ret).before args0 about1 = true := code_word (m := ⟨1, 1⟩) (meth := k1m1) (c := k1c1) (by decide +kernel) rfl rfl rfl (by decide +kernel)
set_option maxRecDepth 65536 in
theorem w_c1 : (Jvm.Cond.code ({ cls := "com/example/tenderbook/tenderbook/clearing/SeededDraws", name := "<init>", desc := "(J)V" } : Jvm.MethodName) prog_21_method_1_code (3 : Nat) (Option.none : Option Jvm.ClassFile.FieldType)).before args0 about1 = true := code_word (m := ⟨3, 0⟩) (meth := k3m0) (c := k3c0) (by decide +kernel) rfl rfl rfl (by decide +kernel)
set_option maxRecDepth 65536 in
theorem w_c2 : (Jvm.Cond.code ({ cls := "java/lang/Object", name := "<init>", desc := "()V" } : Jvm.MethodName) object_method_1_code (1 : Nat) (Option.none : Option Jvm.ClassFile.FieldType)).before args0 about1 = true := code_word (m := ⟨0, 0⟩) (meth := k0m0) (c := k0c0) (by decide +kernel) rfl rfl rfl (by decide +kernel)
set_option maxRecDepth 65536 in
theorem w_c3 : (Jvm.Cond.code ({ cls := "com/example/tenderbook/tenderbook/clearing/SeededDraws", name := "nextBelow", desc := "(I)I" } : Jvm.MethodName) prog_21_method_3_code (6 : Nat) (Option.some Jvm.ClassFile.FieldType.int)).before args0 about1 = true := code_word (m := ⟨3, 1⟩) (meth := k3m1) (c := k3c1) (by decide +kernel) rfl rfl rfl (by decide +kernel)
set_option maxRecDepth 65536 in
theorem w_c4 : (Jvm.Cond.code ({ cls := "com/example/tenderbook/tenderbook/clearing/SeededDraws", name := "nextLong", desc := "()J" } : Jvm.MethodName) prog_21_method_4_code (3 : Nat) (Option.some Jvm.ClassFile.FieldType.long)).before args0 about1 = true := code_word (m := ⟨3, 2⟩) (meth := k3m2) (c := k3c2) (by decide +kernel) rfl rfl rfl (by decide +kernel)
def codes1 : List Jvm.Cond := [Jvm.Cond.code x code maxLocals ret, Jvm.Cond.code ({ cls := "com/example/tenderbook/tenderbook/clearing/SeededDraws", name := "<init>", desc := "(J)V" } : Jvm.MethodName) prog_21_method_1_code (3 : Nat) (Option.none : Option Jvm.ClassFile.FieldType), Jvm.Cond.code ({ cls := "java/lang/Object", name := "<init>", desc := "()V" } : Jvm.MethodName) object_method_1_code (1 : Nat) (Option.none : Option Jvm.ClassFile.FieldType), Jvm.Cond.code ({ cls := "com/example/tenderbook/tenderbook/clearing/SeededDraws", name := "nextBelow", desc := "(I)I" } : Jvm.MethodName) prog_21_method_3_code (6 : Nat) (Option.some Jvm.ClassFile.FieldType.int), Jvm.Cond.code ({ cls := "com/example/tenderbook/tenderbook/clearing/SeededDraws", name := "nextLong", desc := "()J" } : Jvm.MethodName) prog_21_method_4_code (3 : Nat) (Option.some Jvm.ClassFile.FieldType.long)]
set_option maxRecDepth 65536 in
theorem codes_eq : words1.filter isCode = codes1 := rfl
theorem w_codes : ∀ c ∈ words1.filter isCode, c.before args0 about1 = true := by
  rw [codes_eq]
  intro c hc
  simp only [codes1, List.mem_cons, List.not_mem_nil, or_false] at hc
  rcases hc with rfl | rfl | rfl | rfl | rfl
  · exact w_c0
  · exact w_c1
  · exact w_c2
  · exact w_c3
  · exact w_c4
set_option maxRecDepth 65536 in
theorem w_t1 : (words1.take 24).all (fun c => isCode c || c.before args0 about1) = true := by decide +kernel
set_option maxRecDepth 65536 in
theorem w_t2 : (words1.drop 24).all (fun c => isCode c || c.before args0 about1) = true := by decide +kernel
theorem w_tables : (allAtoms (Jvm.Cond.code x code maxLocals ret :: tables_1)).before args0 about1 = true := by
  rw [allAtoms_all]
  show words1.all (fun c => c.before args0 about1) = true
  refine all_split ?_ w_codes
  rw [← List.take_append_drop 24 words1, List.all_append, w_t1, w_t2]
  rfl
set_option maxRecDepth 65536 in
theorem w_case : (Jvm.Cond.and given_1 narrow_1).before args0 about1 = true := by decide +kernel
theorem w_applies : (headSpec (Jvm.Cond.code x code maxLocals ret :: tables_1) room_1).applies x e0.platform about1 = true :=
  (Spec.applies_iff w_frames).mpr ⟨w_running, w_runnable, w_alone, w_named, w_hears, w_ripe, w_room, w_tables⟩
theorem atStart : AtStart classFile x code maxLocals ret World_1 tables_1 room_1 Calls_1 rest_1 Pre_1 launch0 p0 e0 about1 theMethod args0 below0 :=
  ⟨lists_1, trivial, launch0.admits_env _ _ _, launch0.least_env, fairChoices_fair.cas, fairChoices_fair.clock, w_frames, w_args, w_heap, w_applies, trivial, trivial, w_case⟩
end start1
theorem witness_1 : WitnessClaimed_1 := ⟨start1.p0, start1.e0, start1.about1, start1.theMethod, start1.args0, start1.below0, start1.atStart⟩
end Jvm.Pilot.@@N@@
