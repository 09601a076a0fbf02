import JvmDerived
import JvmDerived.Pilot.@@N@@Statement
import JvmDerived.Pilot.@@N@@Code
set_option linter.unusedVariables false
set_option linter.unusedSimpArgs false
@@BLOCK:NumsL.lean.txt@@
namespace Jvm.Pilot.@@N@@
open Jvm Jvm.ClassFile Sem Op Lib Jvm.Free Jvm.Stand Jvm.LawKit Jvm.RoadKit Bundle Jvm.Pilot.@@N@@.Jvm.D

/-! the walk's own small kit: from the frame g over the state T the body comes to its end, with Φ -/
def own_Go (p : Program) (e : Env) (below : List Frame) (T : State) (g : JFrame) (Φ : Outcome → State → Prop) : Prop :=
  ∃ s₂ o, Steps p.tables e below (T.setTop g) s₂ ∧ s₂.status = .running ∧ Ended s₂ below o ∧ Φ o s₂
def own_Fin (s : State) (Q : Option Value → Heap → List Loc → Prop) (k j : Nat) (o : Outcome) (U' : State) : Prop :=
  ∃ v L, o = .returned v ∧ Q v U'.heap L ∧ FrameEnd s o U' L k j
theorem own_by {p : Program} {e : Env} {below : List Frame} {T T' : State} {g g' : JFrame} {Φ : Outcome → State → Prop}
    (h : ∀ t, Steps p.tables e below (T'.setTop g') t → Steps p.tables e below (T.setTop g) t) (k : own_Go p e below T' g' Φ) : own_Go p e below T g Φ := by
  obtain ⟨s₂, o, h1, h2⟩ := k
  exact ⟨s₂, o, h _ h1, h2⟩
theorem own_start {p : Program} {e : Env} {below : List Frame} {s T : State} {g g' : JFrame} {Q : Option Value → Heap → List Loc → Prop} {k j : Nat} (hg : g = g')
    (h : own_Go p e below T g' (own_Fin s Q k j)) : ∃ s₂ o, Steps p.tables e below (T.setTop g) s₂ ∧ s₂.status = .running ∧ Ended s₂ below o ∧ ∃ v L, o = .returned v ∧ Q v s₂.heap L ∧ FrameEnd s o s₂ L k j := by
  subst hg
  exact h
section OwnRet
variable {p : Program} {l : Launch} {e : Env} {R : Room} {s : State} {m : MethodId} {args : Array Value} {below : List Frame} {meth : Method} {c : Code} {T : State} {locs : List Loc} {cells slots : Nat} {Q : Option Value → Heap → List Loc → Prop} {k j pc : Nat} {Ls : Array Slot} {rest : List Value}
theorem own_retN {t : FieldType} (ht : t = .boolean ∨ t = .byte ∨ t = .char ∨ t = .short) (X : Stand p l e R s m args below meth c T locs cells slots) (hx : p.tables.exec = Jvm.exec) (hret : meth.sig.returnType = some t) (hlk : meth.locks = false) {z : Int32} (hd : decode c.code pc = .ok (.ireturn, 1))
    (hz : nar t z = z) (hk : cells ≤ k) (hj : slots ≤ j) (q : Q (some (.int z)) T.heap locs) : own_Go p e below T (mkF m pc Ls (.int z :: rest)) (own_Fin s Q k j) := by
  obtain ⟨fs, hr, hrun, hended, hW, hsame⟩ := X.leave (v := some (.int z)) (fun h => by rw [hret] at h; cases h)
  exact ⟨_, _, retN X hx hret ht hd (by rw [hz]; exact hr), hrun, hended, _, _, rfl, q, ⟨_, rfl⟩, hW, hsame.mono hk hj⟩
theorem own_retZ (X : Stand p l e R s m args below meth c T locs cells slots) (hx : p.tables.exec = Jvm.exec) (hret : meth.sig.returnType = some .boolean) (hlk : meth.locks = false) {z : Int32} (hd : decode c.code pc = .ok (.ireturn, 1))
    (hz : nar .boolean z = z) (hk : cells ≤ k) (hj : slots ≤ j) (q : Q (some (.int z)) T.heap locs) : own_Go p e below T (mkF m pc Ls (.int z :: rest)) (own_Fin s Q k j) := own_retN (Or.inl rfl) X hx hret hlk hd hz hk hj q
theorem own_retI (X : Stand p l e R s m args below meth c T locs cells slots) (hx : p.tables.exec = Jvm.exec) (hret : meth.sig.returnType = some .int) (hlk : meth.locks = false) {z : Int32} (hd : decode c.code pc = .ok (.ireturn, 1))
    (hk : cells ≤ k) (hj : slots ≤ j) (q : Q (some (.int z)) T.heap locs) : own_Go p e below T (mkF m pc Ls (.int z :: rest)) (own_Fin s Q k j) := by
  obtain ⟨fs, hr, hrun, hended, hW, hsame⟩ := X.leave (v := some (.int z)) (fun h => by rw [hret] at h; cases h)
  exact ⟨_, _, retOut X hx hret rfl (Or.inl ⟨rfl, Or.inl rfl, z, rfl⟩) hd hr, hrun, hended, _, _, rfl, q, ⟨_, rfl⟩, hW, hsame.mono hk hj⟩
theorem own_retJ (X : Stand p l e R s m args below meth c T locs cells slots) (hx : p.tables.exec = Jvm.exec) (hret : meth.sig.returnType = some .long) (hlk : meth.locks = false) {z : Int64} (hd : decode c.code pc = .ok (.lreturn, 1))
    (hk : cells ≤ k) (hj : slots ≤ j) (q : Q (some (.long z)) T.heap locs) : own_Go p e below T (mkF m pc Ls (.long z :: rest)) (own_Fin s Q k j) := by
  obtain ⟨fs, hr, hrun, hended, hW, hsame⟩ := X.leave (v := some (.long z)) (fun h => by rw [hret] at h; cases h)
  exact ⟨_, _, retOut X hx hret rfl (Or.inr (Or.inl ⟨rfl, rfl, z, rfl⟩)) hd hr, hrun, hended, _, _, rfl, q, ⟨_, rfl⟩, hW, hsame.mono hk hj⟩
theorem own_retA {t : FieldType} (X : Stand p l e R s m args below meth c T locs cells slots) (hx : p.tables.exec = Jvm.exec) (hret : meth.sig.returnType = some t) (hlk : meth.locks = false) {z : Value} (hd : decode c.code pc = .ok (.areturn, 1))
    (ht : t.isReference = true) (hz : z.isRef = true) (hn : narrow t z = z) (hk : cells ≤ k) (hj : slots ≤ j) (q : Q (some z) T.heap locs) : own_Go p e below T (mkF m pc Ls (z :: rest)) (own_Fin s Q k j) := by
  obtain ⟨fs, hr, hrun, hended, hW, hsame⟩ := X.leave (v := some z) (fun h => by rw [hret] at h; cases h)
  exact ⟨_, _, retOut X hx hret hn (Or.inr (Or.inr (Or.inr (Or.inr ⟨rfl, ht, hz⟩)))) hd hr, hrun, hended, _, _, rfl, q, ⟨_, rfl⟩, hW, hsame.mono hk hj⟩
theorem own_retV (X : Stand p l e R s m args below meth c T locs cells slots) (hx : p.tables.exec = Jvm.exec) (hret : meth.sig.returnType = none) (hlk : meth.locks = false) (hd : decode c.code pc = .ok (.return_, 1))
    (hk : cells ≤ k) (hj : slots ≤ j) (q : Q none T.heap locs) : own_Go p e below T (mkF m pc Ls []) (own_Fin s Q k j) := by
  obtain ⟨fs, hr, hrun, hended, hW, hsame⟩ := X.leave (v := none) (fun _ => rfl)
  exact ⟨_, _, X.returnOut hx hret hd hr, hrun, hended, _, _, rfl, q, ⟨_, rfl⟩, hW, hsame.mono hk hj⟩
theorem own_lrem_eq (x y : Int64) : x - x / y * y = x % y := Int64.toInt_inj.mp (by rw [Jvm.Kit.i64_rem, Int64.toInt_mod])
theorem own_lrem {g : JFrame} {target : State} (X : Stand p l e R s m args below meth c T locs cells slots) (hx : p.tables.exec = Jvm.exec) (hg : g.method = m) {x y : Int64} {rest : List Value} (hd : decode c.code g.pc = .ok (.lrem, 1)) (hs : g.stack = .long y :: .long x :: rest) (hy : y ≠ 0)
    (hr : Steps p.tables e below (T.setTop { g with pc := g.pc + 1, stack := .long (x % y) :: rest }) target) : Steps p.tables e below (T.setTop g) target :=
  XS.lrem X.here hx hg hd hs hy (by rw [own_lrem_eq x y]; exact hr)
end OwnRet
/-! an array: its length, and what each place holds -/
abbrev own_At (j : Int32) (k : Nat) : Prop := ¬ j < 0 ∧ j.toNatClampNeg = k
def own_upd (f : Nat → Value) (k : Nat) (v : Value) : Nat → Value := fun i => if i = k then v else f i
theorem own_upd_hit {f : Nat → Value} {k i : Nat} {v : Value} (h : i = k) : own_upd f k v i = v := if_pos h
theorem own_upd_miss {f : Nat → Value} {k i : Nat} {v : Value} (h : ¬ i = k) : own_upd f k v i = f i := if_neg h
def own_Av (Z : State) (h : Heap) (a : Addr) (ty : FieldType) (n : Nat) (f : Nat → Value) : Prop := ∃ c : Cell, Arr Z h a c ty ∧ c.slots.size = n ∧ ∀ i, i < n → c.slots[i]? = some (f i)
section OwnArr
variable {Z : State} {h h' : Heap} {a b : Addr} {ty : FieldType} {n k sl : Nat} {f : Nat → Value} {v : Value} {ws : List Addr}
theorem own_Av.ext (F : own_Av Z h a ty n f) (E : Ext h h') : own_Av Z h' a ty n f := by obtain ⟨c, A, r⟩ := F; exact ⟨c, A.ext E, r⟩
theorem own_Av.other (F : own_Av Z h b ty n f) (W : Wr h h' a sl v) (q : b ≠ a) : own_Av Z h' b ty n f := by obtain ⟨c, A, r⟩ := F; exact ⟨c, A.other W q, r⟩
theorem own_Av.keep (F : own_Av Z h a ty n f) (K : Keep h h' ws) (q : a ∉ ws) : own_Av Z h' a ty n f := by obtain ⟨c, A, r⟩ := F; exact ⟨c, ⟨K.2.1 a c A.1 q, A.2⟩, r⟩
theorem own_Av.lt (F : own_Av Z h a ty n f) : a < h.size := by obtain ⟨c, A, -⟩ := F; exact A.lt
theorem own_Av.ofnew {z : Int32} {kc : ClassId} {d : Value} (A : Arr Z h a (newA kc ty z) ty) (hn : z.toNatClampNeg = n) (hd : defaultValue ty = d) : own_Av Z h a ty n (fun _ => d) := by
  subst hn hd
  exact ⟨_, A, sz_new _ _ _, fun i hi => by simp [newA, hi]⟩
theorem own_Av.set (F : own_Av Z h a ty n f) (W : Wr h h' a k v) : own_Av Z h' a ty n (own_upd f k v) := by
  obtain ⟨c, A, S, H⟩ := F
  refine ⟨_, A.same W, by rw [sz_set]; exact S, fun i hi => ?_⟩
  by_cases q : i = k
  · subst q
    rw [own_upd_hit rfl]
    simp [Cell.setSlot, S, hi]
  · rw [own_upd_miss q, ← H i hi]
    exact Array.getElem?_setIfInBounds_ne fun u => q u.symm
theorem own_Av.cong {g : Nat → Value} {n' : Nat} (F : own_Av Z h a ty n f) (hn : n = n') (q : ∀ i, i < n → f i = g i) : own_Av Z h a ty n' g := by
  subst hn
  obtain ⟨c, A, S, H⟩ := F
  exact ⟨c, A, S, fun i hi => by rw [← q i hi]; exact H i hi⟩
theorem own_in {j : Int32} (hj : own_At j k) (hk : k < n) {c : Cell} (S : c.slots.size = n) : ¬ (j < 0 ∨ c.slots.size ≤ j.toNatClampNeg) := by
  intro q
  rcases q with q | q
  · exact hj.1 q
  · rw [hj.2, S] at q; omega
variable {p : Program} {l : Launch} {e : Env} {R : Room} {s : State} {m : MethodId} {args : Array Value} {below : List Frame} {meth : Method} {c : Code} {T : State} {locs : List Loc} {cells slots : Nat}
theorem own_ldI (X : Stand p l e R s m args below meth c T locs cells slots) (hx : p.tables.exec = Jvm.exec) (hZ : Z.Warmed39 s.vm) (eT : T.heap = h) (F : own_Av Z h a .int n f) {j : Int32} (hj : own_At j k) (hk : k < n) (hv : f k = v)
    {g : JFrame} (hg : g.method = m) {rest : List Value} (hs : g.stack = .int j :: .ref a :: rest) (hd : decode c.code g.pc = .ok (.iaload, 1)) (t : State)
    (hr : Steps p.tables e below (T.setTop { g with pc := g.pc + 1, stack := v :: rest }) t) : Steps p.tables e below (T.setTop g) t := by
  obtain ⟨cl, A, S, H⟩ := F
  exact X.iaload hx (by rw [eT]; exact A.1) (State.isArrayOf_alike hZ.alike A.2.1) A.2.2 (own_in hj hk S) (by rw [hj.2, H k hk, hv]) hg hs hd t hr
theorem own_ldJ (X : Stand p l e R s m args below meth c T locs cells slots) (hx : p.tables.exec = Jvm.exec) (hZ : Z.Warmed39 s.vm) (eT : T.heap = h) (F : own_Av Z h a .long n f) {j : Int32} (hj : own_At j k) (hk : k < n) (hv : f k = v)
    {g : JFrame} (hg : g.method = m) {rest : List Value} (hs : g.stack = .int j :: .ref a :: rest) (hd : decode c.code g.pc = .ok (.laload, 1)) (t : State)
    (hr : Steps p.tables e below (T.setTop { g with pc := g.pc + 1, stack := v :: rest }) t) : Steps p.tables e below (T.setTop g) t := by
  obtain ⟨cl, A, S, H⟩ := F
  exact X.laload hx (by rw [eT]; exact A.1) (State.isArrayOf_alike hZ.alike A.2.1) A.2.2 (own_in hj hk S) (by rw [hj.2, H k hk, hv]) hg hs hd t hr
theorem own_ldS (X : Stand p l e R s m args below meth c T locs cells slots) (hx : p.tables.exec = Jvm.exec) (hZ : Z.Warmed39 s.vm) (eT : T.heap = h) (F : own_Av Z h a .short n f) {j : Int32} (hj : own_At j k) (hk : k < n) (hv : f k = v)
    {g : JFrame} (hg : g.method = m) {rest : List Value} (hs : g.stack = .int j :: .ref a :: rest) (hd : decode c.code g.pc = .ok (.saload, 1)) (t : State)
    (hr : Steps p.tables e below (T.setTop { g with pc := g.pc + 1, stack := v :: rest }) t) : Steps p.tables e below (T.setTop g) t := by
  obtain ⟨cl, A, S, H⟩ := F
  exact X.saload hx (by rw [eT]; exact A.1) (State.isArrayOf_alike hZ.alike A.2.1) A.2.2 (own_in hj hk S) (by rw [hj.2, H k hk, hv]) hg hs hd t hr
theorem own_ldC (X : Stand p l e R s m args below meth c T locs cells slots) (hx : p.tables.exec = Jvm.exec) (hZ : Z.Warmed39 s.vm) (eT : T.heap = h) (F : own_Av Z h a .char n f) {j : Int32} (hj : own_At j k) (hk : k < n) (hv : f k = v)
    {g : JFrame} (hg : g.method = m) {rest : List Value} (hs : g.stack = .int j :: .ref a :: rest) (hd : decode c.code g.pc = .ok (.caload, 1)) (t : State)
    (hr : Steps p.tables e below (T.setTop { g with pc := g.pc + 1, stack := v :: rest }) t) : Steps p.tables e below (T.setTop g) t := by
  obtain ⟨cl, A, S, H⟩ := F
  exact X.caload hx (by rw [eT]; exact A.1) (State.isArrayOf_alike hZ.alike A.2.1) A.2.2 (own_in hj hk S) (by rw [hj.2, H k hk, hv]) hg hs hd t hr
theorem own_ldB (X : Stand p l e R s m args below meth c T locs cells slots) (hx : p.tables.exec = Jvm.exec) (hZ : Z.Warmed39 s.vm) (eT : T.heap = h) (F : own_Av Z h a .byte n f) {j : Int32} (hj : own_At j k) (hk : k < n) (hv : f k = v)
    {g : JFrame} (hg : g.method = m) {rest : List Value} (hs : g.stack = .int j :: .ref a :: rest) (hd : decode c.code g.pc = .ok (.baload, 1)) (t : State)
    (hr : Steps p.tables e below (T.setTop { g with pc := g.pc + 1, stack := v :: rest }) t) : Steps p.tables e below (T.setTop g) t := by
  obtain ⟨cl, A, S, H⟩ := F
  exact X.baloadBytes hx (by rw [eT]; exact A.1) (State.isArrayOf_alike hZ.alike A.2.1) A.2.2 (own_in hj hk S) (by rw [hj.2, H k hk, hv]) hg hs hd t hr
theorem own_ldZ (X : Stand p l e R s m args below meth c T locs cells slots) (hx : p.tables.exec = Jvm.exec) (hZ : Z.Warmed39 s.vm) (eT : T.heap = h) (F : own_Av Z h a .boolean n f) {j : Int32} (hj : own_At j k) (hk : k < n) (hv : f k = v)
    {g : JFrame} (hg : g.method = m) {rest : List Value} (hs : g.stack = .int j :: .ref a :: rest) (hd : decode c.code g.pc = .ok (.baload, 1)) (t : State)
    (hr : Steps p.tables e below (T.setTop { g with pc := g.pc + 1, stack := v :: rest }) t) : Steps p.tables e below (T.setTop g) t := by
  obtain ⟨cl, A, S, H⟩ := F
  exact X.baloadBooleans hx (by rw [eT]; exact A.1) (State.isArrayOf_alike hZ.alike A.2.1) A.2.2 (own_in hj hk S) (by rw [hj.2, H k hk, hv]) hg hs hd t hr
theorem own_len (X : Stand p l e R s m args below meth c T locs cells slots) (hx : p.tables.exec = Jvm.exec) (hZ : Z.Warmed39 s.vm) (eT : T.heap = h) (F : own_Av Z h a ty n f) {z : Int32} (hz : n.toInt32 = z)
    {g : JFrame} (hg : g.method = m) {rest : List Value} (hs : g.stack = .ref a :: rest) (hd : decode c.code g.pc = .ok (.arraylength, 1)) (t : State)
    (hr : Steps p.tables e below (T.setTop { g with pc := g.pc + 1, stack := .int z :: rest }) t) : Steps p.tables e below (T.setTop g) t := by
  obtain ⟨cl, A, S, H⟩ := F
  exact X.arraylength hx (by rw [eT]; exact A.1) (State.isArrayOf_alike hZ.alike A.2.1) hg hs hd t (by rw [S, hz]; exact hr)
theorem own_stI (X : Stand p l e R s m args below meth c T locs cells slots) (hx : p.tables.exec = Jvm.exec) (hZ : Z.Warmed39 s.vm) (eT : T.heap = h) (F : own_Av Z h a .int n f) {j x : Int32} (hj : own_At j k) (hk : k < n)
    {g : JFrame} (hg : g.method = m) {rest : List Value} (hs : g.stack = .int x :: .int j :: .ref a :: rest) (hd : decode c.code g.pc = .ok (.iastore, 1)) :
    ∃ T' h', Stand p l e R s m args below meth c T' (locs ++ [⟨a, k⟩]) cells slots ∧ T'.heap = h' ∧ Wr h h' a k (.int x) ∧ own_Av Z h' a .int n (own_upd f k (.int x)) ∧ ∀ target, Steps p.tables e below (T'.setTop { g with pc := g.pc + 1, stack := rest }) target → Steps p.tables e below (T.setTop g) target := by
  obtain ⟨cl, A, S, H⟩ := id F
  obtain ⟨T', h', X', e', W', st⟩ := stI X hx hZ eT A (own_in hj hk S) hg hs hd
  rw [hj.2] at X' W'
  exact ⟨T', h', X', e', W', F.set W', st⟩
theorem own_stJ (X : Stand p l e R s m args below meth c T locs cells slots) (hx : p.tables.exec = Jvm.exec) (hZ : Z.Warmed39 s.vm) (eT : T.heap = h) (F : own_Av Z h a .long n f) {j : Int32} {x : Int64} (hj : own_At j k) (hk : k < n)
    {g : JFrame} (hg : g.method = m) {rest : List Value} (hs : g.stack = .long x :: .int j :: .ref a :: rest) (hd : decode c.code g.pc = .ok (.lastore, 1)) :
    ∃ T' h', Stand p l e R s m args below meth c T' (locs ++ [⟨a, k⟩]) cells slots ∧ T'.heap = h' ∧ Wr h h' a k (.long x) ∧ own_Av Z h' a .long n (own_upd f k (.long x)) ∧ ∀ target, Steps p.tables e below (T'.setTop { g with pc := g.pc + 1, stack := rest }) target → Steps p.tables e below (T.setTop g) target := by
  obtain ⟨cl, A, S, H⟩ := id F
  obtain ⟨T', h', X', e', W', st⟩ := stJ X hx hZ eT A (own_in hj hk S) hg hs hd
  rw [hj.2] at X' W'
  exact ⟨T', h', X', e', W', F.set W', st⟩
theorem own_stB (X : Stand p l e R s m args below meth c T locs cells slots) (hx : p.tables.exec = Jvm.exec) (hZ : Z.Warmed39 s.vm) (eT : T.heap = h) (F : own_Av Z h a .byte n f) {j x : Int32} (hj : own_At j k) (hk : k < n)
    {g : JFrame} (hg : g.method = m) {rest : List Value} (hs : g.stack = .int x :: .int j :: .ref a :: rest) (hd : decode c.code g.pc = .ok (.bastore, 1)) :
    ∃ T' h', Stand p l e R s m args below meth c T' (locs ++ [⟨a, k⟩]) cells slots ∧ T'.heap = h' ∧ Wr h h' a k (.int x.toInt8.toInt32) ∧ own_Av Z h' a .byte n (own_upd f k (.int x.toInt8.toInt32)) ∧ ∀ target, Steps p.tables e below (T'.setTop { g with pc := g.pc + 1, stack := rest }) target → Steps p.tables e below (T.setTop g) target := by
  obtain ⟨cl, A, S, H⟩ := id F
  obtain ⟨T', h', X', e', W', st⟩ := stB X hx hZ eT A (own_in hj hk S) hg hs hd
  rw [hj.2] at X' W'
  exact ⟨T', h', X', e', W', F.set W', st⟩
theorem own_stZ (X : Stand p l e R s m args below meth c T locs cells slots) (hx : p.tables.exec = Jvm.exec) (hZ : Z.Warmed39 s.vm) (eT : T.heap = h) (F : own_Av Z h a .boolean n f) {j x : Int32} (hj : own_At j k) (hk : k < n)
    {g : JFrame} (hg : g.method = m) {rest : List Value} (hs : g.stack = .int x :: .int j :: .ref a :: rest) (hd : decode c.code g.pc = .ok (.bastore, 1)) :
    ∃ T' h', Stand p l e R s m args below meth c T' (locs ++ [⟨a, k⟩]) cells slots ∧ T'.heap = h' ∧ Wr h h' a k (.int (x &&& 1)) ∧ own_Av Z h' a .boolean n (own_upd f k (.int (x &&& 1))) ∧ ∀ target, Steps p.tables e below (T'.setTop { g with pc := g.pc + 1, stack := rest }) target → Steps p.tables e below (T.setTop g) target := by
  obtain ⟨cl, A, S, H⟩ := id F
  obtain ⟨T', h', X', e', W', st⟩ := stZ X hx hZ eT A (own_in hj hk S) hg hs hd
  rw [hj.2] at X' W'
  exact ⟨T', h', X', e', W', F.set W', st⟩
theorem own_stC (X : Stand p l e R s m args below meth c T locs cells slots) (hx : p.tables.exec = Jvm.exec) (hZ : Z.Warmed39 s.vm) (eT : T.heap = h) (F : own_Av Z h a .char n f) {j x : Int32} (hj : own_At j k) (hk : k < n)
    {g : JFrame} (hg : g.method = m) {rest : List Value} (hs : g.stack = .int x :: .int j :: .ref a :: rest) (hd : decode c.code g.pc = .ok (.castore, 1)) :
    ∃ T' h', Stand p l e R s m args below meth c T' (locs ++ [⟨a, k⟩]) cells slots ∧ T'.heap = h' ∧ Wr h h' a k (.int (nar .char x)) ∧ own_Av Z h' a .char n (own_upd f k (.int (nar .char x))) ∧ ∀ target, Steps p.tables e below (T'.setTop { g with pc := g.pc + 1, stack := rest }) target → Steps p.tables e below (T.setTop g) target := by
  obtain ⟨cl, A, S, H⟩ := id F
  obtain ⟨T', h', X', e', W', st⟩ := stC X hx hZ eT A (own_in hj hk S) hg hs hd
  rw [hj.2] at X' W'
  exact ⟨T', h', X', e', W', F.set W', st⟩
theorem own_stS (X : Stand p l e R s m args below meth c T locs cells slots) (hx : p.tables.exec = Jvm.exec) (hZ : Z.Warmed39 s.vm) (eT : T.heap = h) (F : own_Av Z h a .short n f) {j x : Int32} (hj : own_At j k) (hk : k < n)
    {g : JFrame} (hg : g.method = m) {rest : List Value} (hs : g.stack = .int x :: .int j :: .ref a :: rest) (hd : decode c.code g.pc = .ok (.sastore, 1)) :
    ∃ T' h', Stand p l e R s m args below meth c T' (locs ++ [⟨a, k⟩]) cells slots ∧ T'.heap = h' ∧ Wr h h' a k (.int (nar .short x)) ∧ own_Av Z h' a .short n (own_upd f k (.int (nar .short x))) ∧ ∀ target, Steps p.tables e below (T'.setTop { g with pc := g.pc + 1, stack := rest }) target → Steps p.tables e below (T.setTop g) target := by
  obtain ⟨cl, A, S, H⟩ := id F
  obtain ⟨T', h', X', e', W', st⟩ := stS X hx hZ eT A (own_in hj hk S) hg hs hd
  rw [hj.2] at X' W'
  exact ⟨T', h', X', e', W', F.set W', st⟩
end OwnArr
theorem own_selP {Z s : State} {a0 args : Array Value} {y : MethodName} {n : Nat} (hZ : Z.Warmed39 s.vm) (wi : (Cond.instantiable y.cls n).before a0 Z = true) (wp : (Cond.privateMethod y).before a0 Z = true) (wm : (Cond.instanceMethod y).before a0 Z = true)
    (hy : y.cls ≠ "java/lang/invoke/MethodHandle" ∧ y.cls ≠ "java/lang/invoke/VarHandle") : (Cond.selects y.cls y y).before args s = true := by
  have w : (Cond.instantiable y.cls n).before args s = true := mvT hZ wi
  obtain ⟨c, k, h1, h2, -, h4, -⟩ := Cond.instantiable_spec w
  exact Jvm.Stand.selects_self_of_private h1 h2 (Bool.or_eq_false_iff.mp h4).1 (Cond.privateMethod_at (mvP hZ wp (args := args))) (mvT hZ wm) hy
theorem own_narZ {x : Int32} (h : x &&& 1 = x) : narrow .boolean (.int x) = .int x := by
  show Value.int (x &&& 1) = _
  rw [h]
theorem own_fitZ {x : Int32} (h : x &&& 1 = x) : fits .boolean (.int x) = true := by
  have q := fits_nar_bool x
  rw [show nar .boolean x = x from h] at q
  exact q
theorem own_mono {p : Program} {e : Env} {below : List Frame} {s T : State} {g : JFrame} {Q Q' : Option Value → Heap → List Loc → Prop} {k j : Nat} (h : ∀ v h L, Q v h L → Q' v h L) (G : own_Go p e below T g (own_Fin s Q k j)) : own_Go p e below T g (own_Fin s Q' k j) := by
  obtain ⟨s₂, o, h1, h2, h3, v, L, h4, h5, h6⟩ := G
  exact ⟨s₂, o, h1, h2, h3, v, L, h4, h _ _ _ h5, h6⟩
theorem own_ofs (i : Nat) : Int32.ofNat i + (1 : Int32) = Int32.ofNat (i + 1) := (Int32.ofNat_add i 1).symm
theorem own_toI {i : Nat} (h : i < 2147483648) : (Int32.ofNat i).toInt = i := Int32.toInt_ofNat_small h
theorem own_ix {i : Nat} (h : i < 2147483648) : own_At (Int32.ofNat i) i := by
  have e := own_toI h
  refine ⟨?_, ?_⟩
  · rw [Int32.lt_iff_toInt_lt, e, show (0 : Int32).toInt = 0 from by decide]; omega
  · simp only [Int32.toNatClampNeg, e]; omega
theorem own_oflt {i n : Nat} (hi : i < 2147483648) (hn : n < 2147483648) : Int32.ofNat i < Int32.ofNat n ↔ i < n := by
  rw [Int32.lt_iff_toInt_lt, own_toI hi, own_toI hn]; omega
theorem own_ofeq {i n : Nat} (hi : i < 2147483648) (hn : n < 2147483648) : Int32.ofNat i = Int32.ofNat n ↔ i = n := by
  rw [← Int32.toInt_inj, own_toI hi, own_toI hn]; omega
def own_fl (F : Nat → Int32) (i : Nat) (g : Nat → Value) (j : Nat) : Value := if j < i then .int (F j) else g j
theorem own_fl_up (F : Nat → Int32) (i : Nat) (g : Nat → Value) : ∀ j, own_upd (own_fl F i g) i (.int (F i)) j = own_fl F (i + 1) g j := fun j => by
  unfold own_fl
  by_cases q : j = i
  · subst q; rw [own_upd_hit rfl, if_pos (by omega)]
  · rw [own_upd_miss q]
    by_cases q2 : j < i
    · rw [if_pos q2, if_pos (by omega)]
    · rw [if_neg q2, if_neg (by omega)]
theorem own_fl0 (F : Nat → Int32) (g : Nat → Value) : ∀ j, g j = own_fl F 0 g j := fun j => by unfold own_fl; rw [if_neg (by omega)]
theorem own_fl_in {F : Nat → Int32} {i j : Nat} {g : Nat → Value} (h : j < i) : own_fl F i g j = .int (F j) := if_pos h
theorem own_fl_out {F : Nat → Int32} {i j : Nat} {g : Nat → Value} (h : ¬ j < i) : own_fl F i g j = g j := if_neg h

/-! single steps over own_Go -/
theorem own_s_iadd {p : Program} {e : Env} {below : List Frame} {T : State} {m : MethodId} {c : Code} {Φ : Outcome → State → Prop} {pc : Nat} {L : Array Slot} {S : List Value} (h : At T m c below) (hx : p.tables.exec = Jvm.exec) {x y : Int32} (hd : decode c.code pc = .ok (.iadd, 1)) (G : own_Go p e below T (mkF m (pc + 1) L (.int (x + y) :: S)) Φ) : own_Go p e below T (mkF m pc L (.int y :: .int x :: S)) Φ := own_by (fun t k => XS.iadd h hx rfl hd rfl k) G
theorem own_s_isub {p : Program} {e : Env} {below : List Frame} {T : State} {m : MethodId} {c : Code} {Φ : Outcome → State → Prop} {pc : Nat} {L : Array Slot} {S : List Value} (h : At T m c below) (hx : p.tables.exec = Jvm.exec) {x y : Int32} (hd : decode c.code pc = .ok (.isub, 1)) (G : own_Go p e below T (mkF m (pc + 1) L (.int (x - y) :: S)) Φ) : own_Go p e below T (mkF m pc L (.int y :: .int x :: S)) Φ := own_by (fun t k => XS.isub h hx rfl hd rfl k) G
theorem own_s_imul {p : Program} {e : Env} {below : List Frame} {T : State} {m : MethodId} {c : Code} {Φ : Outcome → State → Prop} {pc : Nat} {L : Array Slot} {S : List Value} (h : At T m c below) (hx : p.tables.exec = Jvm.exec) {x y : Int32} (hd : decode c.code pc = .ok (.imul, 1)) (G : own_Go p e below T (mkF m (pc + 1) L (.int (x * y) :: S)) Φ) : own_Go p e below T (mkF m pc L (.int y :: .int x :: S)) Φ := own_by (fun t k => XS.imul h hx rfl hd rfl k) G
theorem own_s_iand {p : Program} {e : Env} {below : List Frame} {T : State} {m : MethodId} {c : Code} {Φ : Outcome → State → Prop} {pc : Nat} {L : Array Slot} {S : List Value} (h : At T m c below) (hx : p.tables.exec = Jvm.exec) {x y : Int32} (hd : decode c.code pc = .ok (.iand, 1)) (G : own_Go p e below T (mkF m (pc + 1) L (.int (x &&& y) :: S)) Φ) : own_Go p e below T (mkF m pc L (.int y :: .int x :: S)) Φ := own_by (fun t k => XS.iand h hx rfl hd rfl k) G
theorem own_s_ior {p : Program} {e : Env} {below : List Frame} {T : State} {m : MethodId} {c : Code} {Φ : Outcome → State → Prop} {pc : Nat} {L : Array Slot} {S : List Value} (h : At T m c below) (hx : p.tables.exec = Jvm.exec) {x y : Int32} (hd : decode c.code pc = .ok (.ior, 1)) (G : own_Go p e below T (mkF m (pc + 1) L (.int (x ||| y) :: S)) Φ) : own_Go p e below T (mkF m pc L (.int y :: .int x :: S)) Φ := own_by (fun t k => XS.ior h hx rfl hd rfl k) G
theorem own_s_ixor {p : Program} {e : Env} {below : List Frame} {T : State} {m : MethodId} {c : Code} {Φ : Outcome → State → Prop} {pc : Nat} {L : Array Slot} {S : List Value} (h : At T m c below) (hx : p.tables.exec = Jvm.exec) {x y : Int32} (hd : decode c.code pc = .ok (.ixor, 1)) (G : own_Go p e below T (mkF m (pc + 1) L (.int (x ^^^ y) :: S)) Φ) : own_Go p e below T (mkF m pc L (.int y :: .int x :: S)) Φ := own_by (fun t k => XS.ixor h hx rfl hd rfl k) G
theorem own_s_ladd {p : Program} {e : Env} {below : List Frame} {T : State} {m : MethodId} {c : Code} {Φ : Outcome → State → Prop} {pc : Nat} {L : Array Slot} {S : List Value} (h : At T m c below) (hx : p.tables.exec = Jvm.exec) {x y : Int64} (hd : decode c.code pc = .ok (.ladd, 1)) (G : own_Go p e below T (mkF m (pc + 1) L (.long (x + y) :: S)) Φ) : own_Go p e below T (mkF m pc L (.long y :: .long x :: S)) Φ := own_by (fun t k => XS.ladd h hx rfl hd rfl k) G
theorem own_s_lsub {p : Program} {e : Env} {below : List Frame} {T : State} {m : MethodId} {c : Code} {Φ : Outcome → State → Prop} {pc : Nat} {L : Array Slot} {S : List Value} (h : At T m c below) (hx : p.tables.exec = Jvm.exec) {x y : Int64} (hd : decode c.code pc = .ok (.lsub, 1)) (G : own_Go p e below T (mkF m (pc + 1) L (.long (x - y) :: S)) Φ) : own_Go p e below T (mkF m pc L (.long y :: .long x :: S)) Φ := own_by (fun t k => XS.lsub h hx rfl hd rfl k) G
theorem own_s_lmul {p : Program} {e : Env} {below : List Frame} {T : State} {m : MethodId} {c : Code} {Φ : Outcome → State → Prop} {pc : Nat} {L : Array Slot} {S : List Value} (h : At T m c below) (hx : p.tables.exec = Jvm.exec) {x y : Int64} (hd : decode c.code pc = .ok (.lmul, 1)) (G : own_Go p e below T (mkF m (pc + 1) L (.long (x * y) :: S)) Φ) : own_Go p e below T (mkF m pc L (.long y :: .long x :: S)) Φ := own_by (fun t k => XS.lmul h hx rfl hd rfl k) G
theorem own_s_land {p : Program} {e : Env} {below : List Frame} {T : State} {m : MethodId} {c : Code} {Φ : Outcome → State → Prop} {pc : Nat} {L : Array Slot} {S : List Value} (h : At T m c below) (hx : p.tables.exec = Jvm.exec) {x y : Int64} (hd : decode c.code pc = .ok (.land, 1)) (G : own_Go p e below T (mkF m (pc + 1) L (.long (x &&& y) :: S)) Φ) : own_Go p e below T (mkF m pc L (.long y :: .long x :: S)) Φ := own_by (fun t k => XS.land h hx rfl hd rfl k) G
theorem own_s_lor {p : Program} {e : Env} {below : List Frame} {T : State} {m : MethodId} {c : Code} {Φ : Outcome → State → Prop} {pc : Nat} {L : Array Slot} {S : List Value} (h : At T m c below) (hx : p.tables.exec = Jvm.exec) {x y : Int64} (hd : decode c.code pc = .ok (.lor, 1)) (G : own_Go p e below T (mkF m (pc + 1) L (.long (x ||| y) :: S)) Φ) : own_Go p e below T (mkF m pc L (.long y :: .long x :: S)) Φ := own_by (fun t k => XS.lor h hx rfl hd rfl k) G
theorem own_s_lxor {p : Program} {e : Env} {below : List Frame} {T : State} {m : MethodId} {c : Code} {Φ : Outcome → State → Prop} {pc : Nat} {L : Array Slot} {S : List Value} (h : At T m c below) (hx : p.tables.exec = Jvm.exec) {x y : Int64} (hd : decode c.code pc = .ok (.lxor, 1)) (G : own_Go p e below T (mkF m (pc + 1) L (.long (x ^^^ y) :: S)) Φ) : own_Go p e below T (mkF m pc L (.long y :: .long x :: S)) Φ := own_by (fun t k => XS.lxor h hx rfl hd rfl k) G
theorem own_s_ishl {p : Program} {e : Env} {below : List Frame} {T : State} {m : MethodId} {c : Code} {Φ : Outcome → State → Prop} {pc : Nat} {L : Array Slot} {S : List Value} (h : At T m c below) (hx : p.tables.exec = Jvm.exec) {x y : Int32} (hd : decode c.code pc = .ok (.ishl, 1)) (G : own_Go p e below T (mkF m (pc + 1) L (.int (x <<< (y &&& 31)) :: S)) Φ) : own_Go p e below T (mkF m pc L (.int y :: .int x :: S)) Φ := own_by (fun t k => XS.ishl h hx rfl hd rfl k) G
theorem own_s_ishr {p : Program} {e : Env} {below : List Frame} {T : State} {m : MethodId} {c : Code} {Φ : Outcome → State → Prop} {pc : Nat} {L : Array Slot} {S : List Value} (h : At T m c below) (hx : p.tables.exec = Jvm.exec) {x y : Int32} (hd : decode c.code pc = .ok (.ishr, 1)) (G : own_Go p e below T (mkF m (pc + 1) L (.int (x >>> (y &&& 31)) :: S)) Φ) : own_Go p e below T (mkF m pc L (.int y :: .int x :: S)) Φ := own_by (fun t k => XS.ishr h hx rfl hd rfl k) G
theorem own_s_iushr {p : Program} {e : Env} {below : List Frame} {T : State} {m : MethodId} {c : Code} {Φ : Outcome → State → Prop} {pc : Nat} {L : Array Slot} {S : List Value} (h : At T m c below) (hx : p.tables.exec = Jvm.exec) {x y : Int32} (hd : decode c.code pc = .ok (.iushr, 1)) (G : own_Go p e below T (mkF m (pc + 1) L (.int ((x.toUInt32 >>> (y &&& 31).toUInt32).toInt32) :: S)) Φ) : own_Go p e below T (mkF m pc L (.int y :: .int x :: S)) Φ := own_by (fun t k => XS.iushr h hx rfl hd rfl k) G
theorem own_s_lshl {p : Program} {e : Env} {below : List Frame} {T : State} {m : MethodId} {c : Code} {Φ : Outcome → State → Prop} {pc : Nat} {L : Array Slot} {S : List Value} (h : At T m c below) (hx : p.tables.exec = Jvm.exec) {x : Int64} {y : Int32} (hd : decode c.code pc = .ok (.lshl, 1)) (G : own_Go p e below T (mkF m (pc + 1) L (.long (x <<< (y &&& 0x3f).toInt64) :: S)) Φ) : own_Go p e below T (mkF m pc L (.int y :: .long x :: S)) Φ := own_by (fun t k => XS.lshl h hx rfl hd rfl k) G
theorem own_s_lshr {p : Program} {e : Env} {below : List Frame} {T : State} {m : MethodId} {c : Code} {Φ : Outcome → State → Prop} {pc : Nat} {L : Array Slot} {S : List Value} (h : At T m c below) (hx : p.tables.exec = Jvm.exec) {x : Int64} {y : Int32} (hd : decode c.code pc = .ok (.lshr, 1)) (G : own_Go p e below T (mkF m (pc + 1) L (.long (x >>> (y &&& 0x3f).toInt64) :: S)) Φ) : own_Go p e below T (mkF m pc L (.int y :: .long x :: S)) Φ := own_by (fun t k => XS.lshr h hx rfl hd rfl k) G
theorem own_s_lushr {p : Program} {e : Env} {below : List Frame} {T : State} {m : MethodId} {c : Code} {Φ : Outcome → State → Prop} {pc : Nat} {L : Array Slot} {S : List Value} (h : At T m c below) (hx : p.tables.exec = Jvm.exec) {x : Int64} {y : Int32} (hd : decode c.code pc = .ok (.lushr, 1)) (G : own_Go p e below T (mkF m (pc + 1) L (.long ((x.toUInt64 >>> (y &&& 0x3f).toInt64.toUInt64).toInt64) :: S)) Φ) : own_Go p e below T (mkF m pc L (.int y :: .long x :: S)) Φ := own_by (fun t k => XS.lushr h hx rfl hd rfl k) G
theorem own_s_ineg {p : Program} {e : Env} {below : List Frame} {T : State} {m : MethodId} {c : Code} {Φ : Outcome → State → Prop} {pc : Nat} {L : Array Slot} {S : List Value} (h : At T m c below) (hx : p.tables.exec = Jvm.exec) {x : Int32} (hd : decode c.code pc = .ok (.ineg, 1)) (G : own_Go p e below T (mkF m (pc + 1) L (.int (-x) :: S)) Φ) : own_Go p e below T (mkF m pc L (.int x :: S)) Φ := own_by (fun t k => XS.ineg h hx rfl hd rfl k) G
theorem own_s_lneg {p : Program} {e : Env} {below : List Frame} {T : State} {m : MethodId} {c : Code} {Φ : Outcome → State → Prop} {pc : Nat} {L : Array Slot} {S : List Value} (h : At T m c below) (hx : p.tables.exec = Jvm.exec) {x : Int64} (hd : decode c.code pc = .ok (.lneg, 1)) (G : own_Go p e below T (mkF m (pc + 1) L (.long (-x) :: S)) Φ) : own_Go p e below T (mkF m pc L (.long x :: S)) Φ := own_by (fun t k => XS.lneg h hx rfl hd rfl k) G
theorem own_s_i2l {p : Program} {e : Env} {below : List Frame} {T : State} {m : MethodId} {c : Code} {Φ : Outcome → State → Prop} {pc : Nat} {L : Array Slot} {S : List Value} (h : At T m c below) (hx : p.tables.exec = Jvm.exec) {x : Int32} (hd : decode c.code pc = .ok (.i2l, 1)) (G : own_Go p e below T (mkF m (pc + 1) L (.long (x.toInt64) :: S)) Φ) : own_Go p e below T (mkF m pc L (.int x :: S)) Φ := own_by (fun t k => XS.i2l h hx rfl hd rfl k) G
theorem own_s_l2i {p : Program} {e : Env} {below : List Frame} {T : State} {m : MethodId} {c : Code} {Φ : Outcome → State → Prop} {pc : Nat} {L : Array Slot} {S : List Value} (h : At T m c below) (hx : p.tables.exec = Jvm.exec) {x : Int64} (hd : decode c.code pc = .ok (.l2i, 1)) (G : own_Go p e below T (mkF m (pc + 1) L (.int (x.toInt32) :: S)) Φ) : own_Go p e below T (mkF m pc L (.long x :: S)) Φ := own_by (fun t k => XS.l2i h hx rfl hd rfl k) G
theorem own_s_i2b {p : Program} {e : Env} {below : List Frame} {T : State} {m : MethodId} {c : Code} {Φ : Outcome → State → Prop} {pc : Nat} {L : Array Slot} {S : List Value} (h : At T m c below) (hx : p.tables.exec = Jvm.exec) {x : Int32} (hd : decode c.code pc = .ok (.i2b, 1)) (G : own_Go p e below T (mkF m (pc + 1) L (.int (x.toInt8.toInt32) :: S)) Φ) : own_Go p e below T (mkF m pc L (.int x :: S)) Φ := own_by (fun t k => XS.i2b h hx rfl hd rfl k) G
theorem own_s_i2s {p : Program} {e : Env} {below : List Frame} {T : State} {m : MethodId} {c : Code} {Φ : Outcome → State → Prop} {pc : Nat} {L : Array Slot} {S : List Value} (h : At T m c below) (hx : p.tables.exec = Jvm.exec) {x : Int32} (hd : decode c.code pc = .ok (.i2s, 1)) (G : own_Go p e below T (mkF m (pc + 1) L (.int (x.toInt16.toInt32) :: S)) Φ) : own_Go p e below T (mkF m pc L (.int x :: S)) Φ := own_by (fun t k => XS.i2s h hx rfl hd rfl k) G
theorem own_s_i2c {p : Program} {e : Env} {below : List Frame} {T : State} {m : MethodId} {c : Code} {Φ : Outcome → State → Prop} {pc : Nat} {L : Array Slot} {S : List Value} (h : At T m c below) (hx : p.tables.exec = Jvm.exec) {x : Int32} (hd : decode c.code pc = .ok (.i2c, 1)) (G : own_Go p e below T (mkF m (pc + 1) L (.int (x.toUInt32.toUInt16.toUInt32.toInt32) :: S)) Φ) : own_Go p e below T (mkF m pc L (.int x :: S)) Φ := own_by (fun t k => XS.i2c h hx rfl hd rfl k) G
theorem own_s_iloadN {p : Program} {e : Env} {below : List Frame} {T : State} {m : MethodId} {c : Code} {Φ : Outcome → State → Prop} {pc : Nat} {L : Array Slot} {S : List Value} (h : At T m c below) (hx : p.tables.exec = Jvm.exec) {i : Fin 4} {v : Int32} (hd : decode c.code pc = .ok (.iload_n i, 1)) (hl : L[i.val]? = some (.val (.int v))) (G : own_Go p e below T (mkF m (pc + 1) L (.int v :: S)) Φ) : own_Go p e below T (mkF m pc L S) Φ := own_by (fun t k => XS.iloadN h hx rfl hd hl k) G
theorem own_s_iload {p : Program} {e : Env} {below : List Frame} {T : State} {m : MethodId} {c : Code} {Φ : Outcome → State → Prop} {pc : Nat} {L : Array Slot} {S : List Value} (h : At T m c below) (hx : p.tables.exec = Jvm.exec) {i : Nat} {v : Int32} (hd : decode c.code pc = .ok (.iload i, 2)) (hl : L[i]? = some (.val (.int v))) (G : own_Go p e below T (mkF m (pc + 2) L (.int v :: S)) Φ) : own_Go p e below T (mkF m pc L S) Φ := own_by (fun t k => XS.iload h hx rfl hd hl k) G
theorem own_s_lloadN {p : Program} {e : Env} {below : List Frame} {T : State} {m : MethodId} {c : Code} {Φ : Outcome → State → Prop} {pc : Nat} {L : Array Slot} {S : List Value} (h : At T m c below) (hx : p.tables.exec = Jvm.exec) {i : Fin 4} {v : Int64} (hd : decode c.code pc = .ok (.lload_n i, 1)) (hl : L[i.val]? = some (.val (.long v))) (G : own_Go p e below T (mkF m (pc + 1) L (.long v :: S)) Φ) : own_Go p e below T (mkF m pc L S) Φ := own_by (fun t k => XS.lloadN h hx rfl hd hl k) G
theorem own_s_lload {p : Program} {e : Env} {below : List Frame} {T : State} {m : MethodId} {c : Code} {Φ : Outcome → State → Prop} {pc : Nat} {L : Array Slot} {S : List Value} (h : At T m c below) (hx : p.tables.exec = Jvm.exec) {i : Nat} {v : Int64} (hd : decode c.code pc = .ok (.lload i, 2)) (hl : L[i]? = some (.val (.long v))) (G : own_Go p e below T (mkF m (pc + 2) L (.long v :: S)) Φ) : own_Go p e below T (mkF m pc L S) Φ := own_by (fun t k => XS.lload h hx rfl hd hl k) G
theorem own_s_aloadN {p : Program} {e : Env} {below : List Frame} {T : State} {m : MethodId} {c : Code} {Φ : Outcome → State → Prop} {pc : Nat} {L : Array Slot} {S : List Value} (h : At T m c below) (hx : p.tables.exec = Jvm.exec) {i : Fin 4} {v : Value} (hd : decode c.code pc = .ok (.aload_n i, 1)) (hl : L[i.val]? = some (.val v)) (hv : v.isRef = true) (G : own_Go p e below T (mkF m (pc + 1) L (v :: S)) Φ) : own_Go p e below T (mkF m pc L S) Φ := own_by (fun t k => XS.aloadN h hx rfl hd hl hv k) G
theorem own_s_aload {p : Program} {e : Env} {below : List Frame} {T : State} {m : MethodId} {c : Code} {Φ : Outcome → State → Prop} {pc : Nat} {L : Array Slot} {S : List Value} (h : At T m c below) (hx : p.tables.exec = Jvm.exec) {i : Nat} {v : Value} (hd : decode c.code pc = .ok (.aload i, 2)) (hl : L[i]? = some (.val v)) (hv : v.isRef = true) (G : own_Go p e below T (mkF m (pc + 2) L (v :: S)) Φ) : own_Go p e below T (mkF m pc L S) Φ := own_by (fun t k => XS.aload h hx rfl hd hl hv k) G
theorem own_s_istoreN {p : Program} {e : Env} {below : List Frame} {T : State} {m : MethodId} {c : Code} {Φ : Outcome → State → Prop} {pc : Nat} {L : Array Slot} {S : List Value} (h : At T m c below) (hx : p.tables.exec = Jvm.exec) {i : Fin 4} {v : Int32} (L' : Array Slot) (hd : decode c.code pc = .ok (.istore_n i, 1)) (hl : storeLocals L i.val (.int v) = some L') (G : own_Go p e below T (mkF m (pc + 1) L' S) Φ) : own_Go p e below T (mkF m pc L (.int v :: S)) Φ := own_by (fun t k => XS.istoreN h hx rfl hd rfl hl k) G
theorem own_s_istore {p : Program} {e : Env} {below : List Frame} {T : State} {m : MethodId} {c : Code} {Φ : Outcome → State → Prop} {pc : Nat} {L : Array Slot} {S : List Value} (h : At T m c below) (hx : p.tables.exec = Jvm.exec) {i : Nat} {v : Int32} (L' : Array Slot) (hd : decode c.code pc = .ok (.istore i, 2)) (hl : storeLocals L i (.int v) = some L') (G : own_Go p e below T (mkF m (pc + 2) L' S) Φ) : own_Go p e below T (mkF m pc L (.int v :: S)) Φ := own_by (fun t k => XS.istore h hx rfl hd rfl hl k) G
theorem own_s_lstoreN {p : Program} {e : Env} {below : List Frame} {T : State} {m : MethodId} {c : Code} {Φ : Outcome → State → Prop} {pc : Nat} {L : Array Slot} {S : List Value} (h : At T m c below) (hx : p.tables.exec = Jvm.exec) {i : Fin 4} {v : Int64} (L' : Array Slot) (hd : decode c.code pc = .ok (.lstore_n i, 1)) (hl : storeLocals L i.val (.long v) = some L') (G : own_Go p e below T (mkF m (pc + 1) L' S) Φ) : own_Go p e below T (mkF m pc L (.long v :: S)) Φ := own_by (fun t k => XS.lstoreN h hx rfl hd rfl hl k) G
theorem own_s_lstore {p : Program} {e : Env} {below : List Frame} {T : State} {m : MethodId} {c : Code} {Φ : Outcome → State → Prop} {pc : Nat} {L : Array Slot} {S : List Value} (h : At T m c below) (hx : p.tables.exec = Jvm.exec) {i : Nat} {v : Int64} (L' : Array Slot) (hd : decode c.code pc = .ok (.lstore i, 2)) (hl : storeLocals L i (.long v) = some L') (G : own_Go p e below T (mkF m (pc + 2) L' S) Φ) : own_Go p e below T (mkF m pc L (.long v :: S)) Φ := own_by (fun t k => XS.lstore h hx rfl hd rfl hl k) G
theorem own_s_astoreN {p : Program} {e : Env} {below : List Frame} {T : State} {m : MethodId} {c : Code} {Φ : Outcome → State → Prop} {pc : Nat} {L : Array Slot} {S : List Value} (h : At T m c below) (hx : p.tables.exec = Jvm.exec) {i : Fin 4} {v : Value} (L' : Array Slot) (hd : decode c.code pc = .ok (.astore_n i, 1)) (hv : v.isRef = true) (hl : storeLocals L i.val v = some L') (G : own_Go p e below T (mkF m (pc + 1) L' S) Φ) : own_Go p e below T (mkF m pc L (v :: S)) Φ := own_by (fun t k => XS.astoreN h hx rfl hd rfl hv hl k) G
theorem own_s_astore {p : Program} {e : Env} {below : List Frame} {T : State} {m : MethodId} {c : Code} {Φ : Outcome → State → Prop} {pc : Nat} {L : Array Slot} {S : List Value} (h : At T m c below) (hx : p.tables.exec = Jvm.exec) {i : Nat} {v : Value} (L' : Array Slot) (hd : decode c.code pc = .ok (.astore i, 2)) (hv : v.isRef = true) (hl : storeLocals L i v = some L') (G : own_Go p e below T (mkF m (pc + 2) L' S) Φ) : own_Go p e below T (mkF m pc L (v :: S)) Φ := own_by (fun t k => XS.astore h hx rfl hd rfl hv hl k) G
theorem own_s_iconst {p : Program} {e : Env} {below : List Frame} {T : State} {m : MethodId} {c : Code} {Φ : Outcome → State → Prop} {pc : Nat} {L : Array Slot} {S : List Value} (h : At T m c below) (hx : p.tables.exec = Jvm.exec) {i : Int} (v : Int32) (hd : decode c.code pc = .ok (.iconst i, 1)) (hv : Int32.ofInt i = v) (G : own_Go p e below T (mkF m (pc + 1) L (.int v :: S)) Φ) : own_Go p e below T (mkF m pc L S) Φ := own_by (fun t k => XS.iconst h hx rfl hd (by rw [hv]; exact k)) G
theorem own_s_bipush {p : Program} {e : Env} {below : List Frame} {T : State} {m : MethodId} {c : Code} {Φ : Outcome → State → Prop} {pc : Nat} {L : Array Slot} {S : List Value} (h : At T m c below) (hx : p.tables.exec = Jvm.exec) {i : Int} (v : Int32) (hd : decode c.code pc = .ok (.bipush i, 2)) (hv : (Int8.ofInt i).toInt32 = v) (G : own_Go p e below T (mkF m (pc + 2) L (.int v :: S)) Φ) : own_Go p e below T (mkF m pc L S) Φ := own_by (fun t k => XS.bipush h hx rfl hd (by rw [hv]; exact k)) G
theorem own_s_sipush {p : Program} {e : Env} {below : List Frame} {T : State} {m : MethodId} {c : Code} {Φ : Outcome → State → Prop} {pc : Nat} {L : Array Slot} {S : List Value} (h : At T m c below) (hx : p.tables.exec = Jvm.exec) {i : Int} (v : Int32) (hd : decode c.code pc = .ok (.sipush i, 3)) (hv : (Int16.ofInt i).toInt32 = v) (G : own_Go p e below T (mkF m (pc + 3) L (.int v :: S)) Φ) : own_Go p e below T (mkF m pc L S) Φ := own_by (fun t k => XS.sipush h hx rfl hd (by rw [hv]; exact k)) G
theorem own_s_lconst {p : Program} {e : Env} {below : List Frame} {T : State} {m : MethodId} {c : Code} {Φ : Outcome → State → Prop} {pc : Nat} {L : Array Slot} {S : List Value} (h : At T m c below) (hx : p.tables.exec = Jvm.exec) {i : Fin 2} (v : Int64) (hd : decode c.code pc = .ok (.lconst i, 1)) (hv : Int64.ofNat i = v) (G : own_Go p e below T (mkF m (pc + 1) L (.long v :: S)) Φ) : own_Go p e below T (mkF m pc L S) Φ := own_by (fun t k => XS.lconst h hx rfl hd (by rw [hv]; exact k)) G
theorem own_s_goto {p : Program} {e : Env} {below : List Frame} {T : State} {m : MethodId} {c : Code} {Φ : Outcome → State → Prop} {pc : Nat} {L : Array Slot} {S : List Value} (h : At T m c below) (hx : p.tables.exec = Jvm.exec) {o : Int} (pc' : Nat) (hd : decode c.code pc = .ok (.goto o, 3)) (ho : 0 ≤ (pc : Int) + o) (hp : ((pc : Int) + o).toNat = pc') (G : own_Go p e below T (mkF m pc' L S) Φ) : own_Go p e below T (mkF m pc L S) Φ := own_by (fun t k => XS.goto h hx rfl rfl hd ho hp k) G
theorem own_s_ifYes {p : Program} {e : Env} {below : List Frame} {T : State} {m : MethodId} {c : Code} {Φ : Outcome → State → Prop} {pc : Nat} {L : Array Slot} {S : List Value} (h : At T m c below) (hx : p.tables.exec = Jvm.exec) {cd : ClassFile.Cond} {x : Int32} {o : Int} (pc' : Nat) (hd : decode c.code pc = .ok (.ifCond cd o, 3)) (hc : ifCond.holds cd x = true) (ho : 0 ≤ (pc : Int) + o) (hp : ((pc : Int) + o).toNat = pc') (G : own_Go p e below T (mkF m pc' L S) Φ) : own_Go p e below T (mkF m pc L (.int x :: S)) Φ := own_by (fun t k => XS.ifYes h hx rfl rfl hd rfl hc ho hp k) G
theorem own_s_ifNo {p : Program} {e : Env} {below : List Frame} {T : State} {m : MethodId} {c : Code} {Φ : Outcome → State → Prop} {pc : Nat} {L : Array Slot} {S : List Value} (h : At T m c below) (hx : p.tables.exec = Jvm.exec) {cd : ClassFile.Cond} {x : Int32} {o : Int} (hd : decode c.code pc = .ok (.ifCond cd o, 3)) (hc : ifCond.holds cd x = false) (G : own_Go p e below T (mkF m (pc + 3) L S) Φ) : own_Go p e below T (mkF m pc L (.int x :: S)) Φ := own_by (fun t k => XS.ifNo h hx rfl hd rfl hc k) G
theorem own_s_icmpYes {p : Program} {e : Env} {below : List Frame} {T : State} {m : MethodId} {c : Code} {Φ : Outcome → State → Prop} {pc : Nat} {L : Array Slot} {S : List Value} (h : At T m c below) (hx : p.tables.exec = Jvm.exec) {cd : ClassFile.Cond} {x y : Int32} {o : Int} (pc' : Nat) (hd : decode c.code pc = .ok (.if_icmp cd o, 3)) (hc : if_icmp.holds cd x y = true) (ho : 0 ≤ (pc : Int) + o) (hp : ((pc : Int) + o).toNat = pc') (G : own_Go p e below T (mkF m pc' L S) Φ) : own_Go p e below T (mkF m pc L (.int y :: .int x :: S)) Φ := own_by (fun t k => XS.icmpYes h hx rfl rfl hd rfl hc ho hp k) G
theorem own_s_icmpNo {p : Program} {e : Env} {below : List Frame} {T : State} {m : MethodId} {c : Code} {Φ : Outcome → State → Prop} {pc : Nat} {L : Array Slot} {S : List Value} (h : At T m c below) (hx : p.tables.exec = Jvm.exec) {cd : ClassFile.Cond} {x y : Int32} {o : Int} (hd : decode c.code pc = .ok (.if_icmp cd o, 3)) (hc : if_icmp.holds cd x y = false) (G : own_Go p e below T (mkF m (pc + 3) L S) Φ) : own_Go p e below T (mkF m pc L (.int y :: .int x :: S)) Φ := own_by (fun t k => XS.icmpNo h hx rfl hd rfl hc k) G
theorem own_s_lcmp {p : Program} {e : Env} {below : List Frame} {T : State} {m : MethodId} {c : Code} {Φ : Outcome → State → Prop} {pc : Nat} {L : Array Slot} {S : List Value} (h : At T m c below) (hx : p.tables.exec = Jvm.exec) {x y : Int64} (hd : decode c.code pc = .ok (.lcmp, 1)) (G : own_Go p e below T (mkF m (pc + 1) L (.int (Jvm.Free.XT.cmpL x y) :: S)) Φ) : own_Go p e below T (mkF m pc L (.long y :: .long x :: S)) Φ := own_by (fun t k => Jvm.Free.XT.lcmp h hx rfl hd rfl k) G
theorem own_s_dup {p : Program} {e : Env} {below : List Frame} {T : State} {m : MethodId} {c : Code} {Φ : Outcome → State → Prop} {pc : Nat} {L : Array Slot} {S : List Value} (h : At T m c below) (hx : p.tables.exec = Jvm.exec) {x : Value} (hd : decode c.code pc = .ok (.dup, 1)) (hc : x.category = 1) (G : own_Go p e below T (mkF m (pc + 1) L (x :: x :: S)) Φ) : own_Go p e below T (mkF m pc L (x :: S)) Φ := own_by (fun t k => XS.dup h hx rfl hd rfl hc k) G
theorem own_s_pop {p : Program} {e : Env} {below : List Frame} {T : State} {m : MethodId} {c : Code} {Φ : Outcome → State → Prop} {pc : Nat} {L : Array Slot} {S : List Value} (h : At T m c below) (hx : p.tables.exec = Jvm.exec) {x : Value} (hd : decode c.code pc = .ok (.pop, 1)) (hc : x.category = 1) (G : own_Go p e below T (mkF m (pc + 1) L S) Φ) : own_Go p e below T (mkF m pc L (x :: S)) Φ := own_by (fun t k => XS.pop h hx rfl hd rfl hc k) G

theorem own_d2_0 : decode jdk_30_method_1_code 0 = .ok (.aload_n 0, 1) := by decide +kernel
theorem own_d2_1 : decode jdk_30_method_1_code 1 = .ok (.invokespecial 1, 3) := by decide +kernel
theorem own_d2_4 : decode jdk_30_method_1_code 4 = .ok (.return_, 1) := by decide +kernel
theorem own_pn_Record : plainName "java/lang/Record" = true := by first | (simp [plainName, overriddenIn]; done) | decide +kernel
theorem own_ef2 (m : MethodId) (this : Addr) : entryFrame m #[(.ref this)] 1 = mkF m 0 #[.val (.ref this)] [] := by first | (simp [entryFrame, mkF, argsToLocals, Value.category]; done) | rfl
def own_q_own_r2 (Z : State) (this : Addr) (h0 : Heap) (n0 : Nat) (v : Option Value) (h : Heap) (L : List Loc) : Prop := v = none ∧ Fr n0 L ∧ h = h0
set_option maxRecDepth 65536 in
set_option maxHeartbeats 40000000 in
theorem own_r2 (l : Launch) (Z : State) (a0 : Array Value) (hw : ∀ d ∈ tables_1, d.before a0 Z = true) (ws : List Jvm.Cond) (this : Addr) (h0 : Heap) (n0 : Nat) (Z0 : n0 ≤ h0.size) :
    MetFree l (⟨"java/lang/Record", "<init>", "()V"⟩ : MethodName) (head1 (Jvm.Cond.code (⟨"java/lang/Record", "<init>", "()V"⟩ : MethodName) jdk_30_method_1_code 1 none :: ws) ({ frames := 1, cells := 0, slots := 0, locals := 12 } : Room)) (fun a U => a = #[(.ref this)] ∧ Z.Warmed39 U.vm ∧ U.heap = h0) (fun _ _ _ _ _ => True) (fun _ U o U' => ∃ v L, o = .returned v ∧ own_q_own_r2 Z this h0 n0 v U'.heap L ∧ FrameEnd U o U' L ({ frames := 1, cells := 0, slots := 0, locals := 12 } : Room).cells ({ frames := 1, cells := 0, slots := 0, locals := 12 } : Room).slots) := by
  refine MetFree.of_bodySF (plainFor_of_name own_pn_Record) hisR ?_
  intro p e s m args below meth c T0 Bd hml0 hP hK
  obtain ⟨rfl, hZ, hh⟩ := hP
  have hx := Bd.exec
  have hby := Bd.bytes
  have hml : c.maxLocals = 1 := hml0
  have hown : s.vm.findClass "java/lang/Record" = some m.cls := findClass_of_methodNamed Bd.named
  have hnm := (name_of_methodNamed Bd.named Bd.method).1
  have hret : meth.sig.returnType = none := Bd.returns
  have hlk : meth.locks = false := BodyLoose.notSynchronized Bd
  have X0 : Stand p l e ({ frames := 1, cells := 0, slots := 0, locals := 12 } : Room) s m #[(.ref this)] below meth c T0 [] 0 0 := Stand.of_body Bd
  have e0 : T0.heap = h0 := by rw [← hh, Bd.state]; rfl
  have N0 := Fr.nil n0
  refine own_start (own_ef2 m this) (Q := fun (v : Option Value) (h : Heap) (L : List Loc) => v = none ∧ Fr n0 L ∧ h = h0) (k := 0) (j := 0) ?_
  show own_Go p e below T0 (mkF m 0 #[.val (.ref this)] []) _
  refine own_s_aloadN X0.here hx (hb hby own_d2_0) rfl rfl ?_
  obtain ⟨T1, X1, e1, st1⟩ := initO X0 hx hZ hown (hw _ (List.mem_of_getElem? (i := 11) rfl)) (hw _ (List.mem_of_getElem? (i := 12) rfl)) (hw _ (List.mem_of_getElem? (i := 13) rfl)) e0 (g := (mkF m 1 #[.val (.ref this)] [(.ref this)])) rfl (by rw [hml]; rfl) rfl (hb hby own_d2_1) (by decide) (W := 0) (by show 2 * 0 + _ ≤ _; exact Nat.le_of_eq rfl) (by decide)
  refine own_by st1 ?_
  show own_Go p e below T1 (mkF m 4 #[.val (.ref this)] []) _
  refine own_retV X1 hx hret hlk (hb hby own_d2_4) (by decide) (by decide) ?_
  exact ⟨rfl, N0, e1⟩
theorem own_d1_0 : decode prog_56_method_1_code 0 = .ok (.aload_n 0, 1) := by decide +kernel
theorem own_d1_1 : decode prog_56_method_1_code 1 = .ok (.invokespecial 1, 3) := by decide +kernel
theorem own_d1_4 : decode prog_56_method_1_code 4 = .ok (.aload_n 0, 1) := by decide +kernel
theorem own_d1_5 : decode prog_56_method_1_code 5 = .ok (.iload_n 1, 1) := by decide +kernel
theorem own_d1_6 : decode prog_56_method_1_code 6 = .ok (.putfield 7, 3) := by decide +kernel
theorem own_d1_9 : decode prog_56_method_1_code 9 = .ok (.return_, 1) := by decide +kernel
theorem own_pn_Term : plainName "com/example/tenderbook/tenderbook/core/Term" = true := by first | (simp [plainName, overriddenIn]; done) | decide +kernel
theorem own_ef1 (m : MethodId) (this : Addr) (p1 : Int32) : entryFrame m #[(.ref this), (.int p1)] 2 = mkF m 0 #[.val (.ref this), .val (.int p1)] [] := by first | (simp [entryFrame, mkF, argsToLocals, Value.category]; done) | rfl
theorem own_pd_1 : parseMethodDescriptor "()V" = some ⟨[], none⟩ := by decide +kernel
def own_q_own_r1 (Z : State) (this : Addr) (p1 : Int32) (h0 : Heap) (n0 : Nat) (v : Option Value) (h : Heap) (L : List Loc) : Prop := v = none ∧ Fr n0 L ∧ Keep h0 h [this] ∧ Fld Z h this "com/example/tenderbook/tenderbook/core/Term" "totalMonths" "I" (.int p1)
set_option maxRecDepth 65536 in
set_option maxHeartbeats 40000000 in
theorem own_r1 (l : Launch) (Z : State) (a0 : Array Value) (hw : ∀ d ∈ tables_1, d.before a0 Z = true) (ws : List Jvm.Cond) (this : Addr) (p1 : Int32) (h0 : Heap) (n0 : Nat) (Z0 : n0 ≤ h0.size) (E_this : Exa Z h0 this "com/example/tenderbook/tenderbook/core/Term") (F_this_totalMonths : Fld Z h0 this "com/example/tenderbook/tenderbook/core/Term" "totalMonths" "I" (.int (0 : Int32))) (ge_this : n0 ≤ this) :
    MetFree l (⟨"com/example/tenderbook/tenderbook/core/Term", "<init>", "(I)V"⟩ : MethodName) (head1 (Jvm.Cond.code (⟨"com/example/tenderbook/tenderbook/core/Term", "<init>", "(I)V"⟩ : MethodName) prog_56_method_1_code 2 none :: ws) ({ frames := 2, cells := 0, slots := 0, locals := 24 } : Room)) (fun a U => a = #[(.ref this), (.int p1)] ∧ Z.Warmed39 U.vm ∧ U.heap = h0) (fun _ _ _ _ _ => True) (fun _ U o U' => ∃ v L, o = .returned v ∧ own_q_own_r1 Z this p1 h0 n0 v U'.heap L ∧ FrameEnd U o U' L ({ frames := 2, cells := 0, slots := 0, locals := 24 } : Room).cells ({ frames := 2, cells := 0, slots := 0, locals := 24 } : Room).slots) := by
  refine MetFree.of_bodySF (plainFor_of_name own_pn_Term) hisR ?_
  intro p e s m args below meth c T0 Bd hml0 hP hK
  obtain ⟨rfl, hZ, hh⟩ := hP
  have hx := Bd.exec
  have hby := Bd.bytes
  have hml : c.maxLocals = 2 := hml0
  have hown : s.vm.findClass "com/example/tenderbook/tenderbook/core/Term" = some m.cls := findClass_of_methodNamed Bd.named
  have hnm := (name_of_methodNamed Bd.named Bd.method).1
  have hret : meth.sig.returnType = none := Bd.returns
  have hlk : meth.locks = false := BodyLoose.notSynchronized Bd
  have X0 : Stand p l e ({ frames := 2, cells := 0, slots := 0, locals := 24 } : Room) s m #[(.ref this), (.int p1)] below meth c T0 [] 0 0 := Stand.of_body Bd
  have e0 : T0.heap = h0 := by rw [← hh, Bd.state]; rfl
  have N0 := Fr.nil n0
  refine own_start (own_ef1 m this p1) (Q := fun (v : Option Value) (h : Heap) (L : List Loc) => v = none ∧ Fr n0 L ∧ Keep h0 h [this] ∧ Fld Z h this "com/example/tenderbook/tenderbook/core/Term" "totalMonths" "I" (.int p1)) (k := 0) (j := 0) ?_
  show own_Go p e below T0 (mkF m 0 #[.val (.ref this), .val (.int p1)] []) _
  have K0 := Keep.refl h0 [this]
  refine own_s_aloadN X0.here hx (hb hby own_d1_0) rfl rfl ?_
  obtain ⟨_, _, ⟨T2, L2, k2, n2⟩, -, X2, ⟨Lc2, hQ2, l2, y2, z2⟩, st2⟩ := X0.specialBack hx (y := (⟨"java/lang/Record", "<init>", "()V"⟩ : MethodName)) rfl hown (mvT hZ (hw _ (List.mem_of_getElem? (i := 6) rfl))) (mvT hZ (hw _ (List.mem_of_getElem? (i := 7) rfl))) (mvT hZ (hw _ (List.mem_of_getElem? (i := 10) rfl))) (by decide) (backOf (W := 0) (own_r2 l Z a0 hw [] this  h0 n0 Z0 ) hZ (hw _ (List.mem_of_getElem? (i := 10) rfl)) (hw _ (List.mem_of_getElem? (i := 9) rfl)) (by decide) (by decide)) (g := (mkF m 1 #[.val (.ref this), .val (.int p1)] [(.ref this)])) rfl (by rw [hml]; rfl) (Steps.refl _) (a := this) (argsL := []) (rest := []) (lenOf own_pd_1 rfl) rfl (by show 2 * 0 + _ ≤ _; exact Nat.le_of_eq rfl) (hb hby own_d1_1) (fun _ _ => ⟨rfl, e0, (by decide : 0 + 0 ≤ _), (by decide : 0 + 0 ≤ _)⟩)
  dsimp only [Pt.U, Pt.locs, Pt.cells, Pt.slots] at X2 l2 y2 z2 st2 hQ2
  subst l2 y2 z2
  obtain ⟨rfl, N2q, e2⟩ := hQ2
  have N2 := Fr.app N0 N2q
  refine own_by (fun t k => st2.trans k) ?_
  show own_Go p e below T2 (mkF m 4 #[.val (.ref this), .val (.int p1)] []) _
  refine own_s_aloadN X2.here hx (hb hby own_d1_4) rfl rfl ?_
  refine own_s_iloadN X2.here hx (hb hby own_d1_5) rfl ?_
  obtain ⟨T3, h3, X3, e3, W3, st3⟩ := putF X2 hx hZ hown (host := "") (Or.inl (hw _ (List.mem_of_getElem? (i := 14) rfl))) Via.refl e2 F_this_totalMonths E_this (Or.inr ⟨(hw _ (List.mem_of_getElem? (i := 15) rfl)), rfl, hnm⟩) (hw _ (List.mem_of_getElem? (i := 1) rfl)) (ty := .int) (by decide) rfl rfl (g := (mkF m 6 #[.val (.ref this), .val (.int p1)] [(.int p1), (.ref this)])) rfl rfl (hb hby own_d1_6)
  have fw3 := F_this_totalMonths.same W3
  have f4 := E_this.wr W3
  have N3 := Fr.snoc X3 N2 ge_this
  have SZ3 : n0 ≤ h3.size := by rw [W3.size]; exact Z0
  have K3 := K0.wr W3 (Or.inl (List.mem_of_getElem? (i := 0) rfl))
  refine own_by st3 ?_
  show own_Go p e below T3 (mkF m 9 #[.val (.ref this), .val (.int p1)] []) _
  refine own_retV X3 hx hret hlk (hb hby own_d1_9) (by decide) (by decide) ?_
  rw [e3]
  exact ⟨rfl, N3, K3, fw3⟩
def own_f5 (u0 : Int32) (u1 : Int32) : Int32 := (if u0 < u1 then (-1 : Int32) else (if u0 = u1 then (0 : Int32) else (1 : Int32)))
theorem own_d5_0 : decode jdk_33_method_40_code 0 = .ok (.iload_n 0, 1) := by decide +kernel
theorem own_d5_1 : decode jdk_33_method_40_code 1 = .ok (.iload_n 1, 1) := by decide +kernel
theorem own_d5_2 : decode jdk_33_method_40_code 2 = .ok (.if_icmp .ge 7, 3) := by decide +kernel
theorem own_d5_5 : decode jdk_33_method_40_code 5 = .ok (.iconst (-1), 1) := by decide +kernel
theorem own_d5_6 : decode jdk_33_method_40_code 6 = .ok (.goto 13, 3) := by decide +kernel
theorem own_d5_9 : decode jdk_33_method_40_code 9 = .ok (.iload_n 0, 1) := by decide +kernel
theorem own_d5_10 : decode jdk_33_method_40_code 10 = .ok (.iload_n 1, 1) := by decide +kernel
theorem own_d5_11 : decode jdk_33_method_40_code 11 = .ok (.if_icmp .ne 7, 3) := by decide +kernel
theorem own_d5_14 : decode jdk_33_method_40_code 14 = .ok (.iconst 0, 1) := by decide +kernel
theorem own_d5_15 : decode jdk_33_method_40_code 15 = .ok (.goto 4, 3) := by decide +kernel
theorem own_d5_18 : decode jdk_33_method_40_code 18 = .ok (.iconst 1, 1) := by decide +kernel
theorem own_d5_19 : decode jdk_33_method_40_code 19 = .ok (.ireturn, 1) := by decide +kernel
theorem own_pn_Integer : plainName "java/lang/Integer" = true := by first | (simp [plainName, overriddenIn]; done) | decide +kernel
theorem own_ef5 (m : MethodId) (u0 : Int32) (u1 : Int32) : entryFrame m #[(.int u0), (.int u1)] 2 = mkF m 0 #[.val (.int u0), .val (.int u1)] [] := by first | (simp [entryFrame, mkF, argsToLocals, Value.category]; done) | rfl
def own_q_own_r5 (Z : State) (u0 : Int32) (u1 : Int32) (h0 : Heap) (n0 : Nat) (v : Option Value) (h : Heap) (L : List Loc) : Prop := v = some (.int (own_f5 u0 u1)) ∧ Fr n0 L ∧ h = h0
set_option maxRecDepth 65536 in
set_option maxHeartbeats 40000000 in
theorem own_r5 (l : Launch) (Z : State) (a0 : Array Value) (hw : ∀ d ∈ tables_1, d.before a0 Z = true) (ws : List Jvm.Cond) (u0 : Int32) (u1 : Int32) (h0 : Heap) (n0 : Nat) (Z0 : n0 ≤ h0.size) :
    MetFree l (⟨"java/lang/Integer", "compare", "(II)I"⟩ : MethodName) (head1 (Jvm.Cond.code (⟨"java/lang/Integer", "compare", "(II)I"⟩ : MethodName) jdk_33_method_40_code 2 (some .int) :: ws) ({ frames := 0, cells := 0, slots := 0, locals := 0 } : Room)) (fun a U => a = #[(.int u0), (.int u1)] ∧ Z.Warmed39 U.vm ∧ U.heap = h0) (fun _ _ _ _ _ => True) (fun _ U o U' => ∃ v L, o = .returned v ∧ own_q_own_r5 Z u0 u1 h0 n0 v U'.heap L ∧ FrameEnd U o U' L ({ frames := 0, cells := 0, slots := 0, locals := 0 } : Room).cells ({ frames := 0, cells := 0, slots := 0, locals := 0 } : Room).slots) := by
  refine MetFree.of_bodySF (plainFor_of_name own_pn_Integer) hisR ?_
  intro p e s m args below meth c T0 Bd hml0 hP hK
  obtain ⟨rfl, hZ, hh⟩ := hP
  have hx := Bd.exec
  have hby := Bd.bytes
  have hml : c.maxLocals = 2 := hml0
  have hown : s.vm.findClass "java/lang/Integer" = some m.cls := findClass_of_methodNamed Bd.named
  have hnm := (name_of_methodNamed Bd.named Bd.method).1
  have hret : meth.sig.returnType = (some .int) := Bd.returns
  have hlk : meth.locks = false := BodyLoose.notSynchronized Bd
  have X0 : Stand p l e ({ frames := 0, cells := 0, slots := 0, locals := 0 } : Room) s m #[(.int u0), (.int u1)] below meth c T0 [] 0 0 := Stand.of_body Bd
  have e0 : T0.heap = h0 := by rw [← hh, Bd.state]; rfl
  have N0 := Fr.nil n0
  refine own_start (own_ef5 m u0 u1) (Q := fun (v : Option Value) (h : Heap) (L : List Loc) => v = some (.int (own_f5 u0 u1)) ∧ Fr n0 L ∧ h = h0) (k := 0) (j := 0) ?_
  show own_Go p e below T0 (mkF m 0 #[.val (.int u0), .val (.int u1)] []) _
  refine own_s_iloadN X0.here hx (hb hby own_d5_0) rfl ?_
  refine own_s_iloadN X0.here hx (hb hby own_d5_1) rfl ?_
  by_cases hc2 : u0 < u1
  ·
    refine own_s_icmpNo X0.here hx (hb hby own_d5_2) (Jvm.Free.XT.ii_ge_f hc2) ?_
    refine own_s_iconst X0.here hx (-1 : Int32) (hb hby own_d5_5) rfl ?_
    show own_Go p e below T0 (mkF m 6 #[.val (.int u0), .val (.int u1)] [(.int (-1 : Int32))]) _
    refine own_s_goto X0.here hx 19 (hb hby own_d5_6) (by decide) (by decide) ?_
    refine own_retI X0 hx hret hlk (hb hby own_d5_19) (by decide) (by decide) ?_
    exact ⟨by unfold own_f5; rw [if_pos hc2], N0, e0⟩
  ·
    show own_Go p e below T0 (mkF m 2 #[.val (.int u0), .val (.int u1)] [(.int u1), (.int u0)]) _
    refine own_s_icmpYes X0.here hx 9 (hb hby own_d5_2) (Jvm.Free.XT.ii_ge_t hc2) (by decide) (by decide) ?_
    refine own_s_iloadN X0.here hx (hb hby own_d5_9) rfl ?_
    refine own_s_iloadN X0.here hx (hb hby own_d5_10) rfl ?_
    by_cases hc11 : u0 = u1
    ·
      refine own_s_icmpNo X0.here hx (hb hby own_d5_11) (Jvm.Free.XT.ii_ne_f hc11) ?_
      refine own_s_iconst X0.here hx (0 : Int32) (hb hby own_d5_14) rfl ?_
      show own_Go p e below T0 (mkF m 15 #[.val (.int u0), .val (.int u1)] [(.int (0 : Int32))]) _
      refine own_s_goto X0.here hx 19 (hb hby own_d5_15) (by decide) (by decide) ?_
      refine own_retI X0 hx hret hlk (hb hby own_d5_19) (by decide) (by decide) ?_
      exact ⟨by unfold own_f5; rw [if_neg hc2, if_pos hc11], N0, e0⟩
    ·
      show own_Go p e below T0 (mkF m 11 #[.val (.int u0), .val (.int u1)] [(.int u1), (.int u0)]) _
      refine own_s_icmpYes X0.here hx 18 (hb hby own_d5_11) (Jvm.Free.XT.ii_ne_t hc11) (by decide) (by decide) ?_
      refine own_s_iconst X0.here hx (1 : Int32) (hb hby own_d5_18) rfl ?_
      refine own_retI X0 hx hret hlk (hb hby own_d5_19) (by decide) (by decide) ?_
      exact ⟨by unfold own_f5; rw [if_neg hc2, if_neg hc11], N0, e0⟩
theorem own_d4_0 : decode prog_56_method_6_code 0 = .ok (.aload_n 0, 1) := by decide +kernel
theorem own_d4_1 : decode prog_56_method_6_code 1 = .ok (.getfield 7, 3) := by decide +kernel
theorem own_d4_4 : decode prog_56_method_6_code 4 = .ok (.aload_n 1, 1) := by decide +kernel
theorem own_d4_5 : decode prog_56_method_6_code 5 = .ok (.getfield 7, 3) := by decide +kernel
theorem own_d4_8 : decode prog_56_method_6_code 8 = .ok (.invokestatic 86, 3) := by decide +kernel
theorem own_d4_11 : decode prog_56_method_6_code 11 = .ok (.ireturn, 1) := by decide +kernel
theorem own_ef4 (m : MethodId) (this : Addr) (r1 : Addr) : entryFrame m #[(.ref this), (.ref r1)] 2 = mkF m 0 #[.val (.ref this), .val (.ref r1)] [] := by first | (simp [entryFrame, mkF, argsToLocals, Value.category]; done) | rfl
theorem own_pd_3 : parseMethodDescriptor "(II)I" = some ⟨[.int, .int], some .int⟩ := by decide +kernel
def own_q_own_r4 (Z : State) (this : Addr) (r1 : Addr) (z1 z2 : Int32) (h0 : Heap) (n0 : Nat) (v : Option Value) (h : Heap) (L : List Loc) : Prop := v = some (.int (own_f5 z1 z2)) ∧ Fr n0 L ∧ h = h0
set_option maxRecDepth 65536 in
set_option maxHeartbeats 40000000 in
theorem own_r4 (l : Launch) (Z : State) (a0 : Array Value) (hw : ∀ d ∈ tables_1, d.before a0 Z = true) (ws : List Jvm.Cond) (this : Addr) (r1 : Addr) (z1 z2 : Int32) (h0 : Heap) (n0 : Nat) (Z0 : n0 ≤ h0.size) (F_this_totalMonths : Fld Z h0 this "com/example/tenderbook/tenderbook/core/Term" "totalMonths" "I" (.int z1)) (F_r1_totalMonths : Fld Z h0 r1 "com/example/tenderbook/tenderbook/core/Term" "totalMonths" "I" (.int z2)) :
    MetFree l (⟨"com/example/tenderbook/tenderbook/core/Term", "compareTo", "(Lcom/example/tenderbook/tenderbook/core/Term;)I"⟩ : MethodName) (head1 (Jvm.Cond.code (⟨"com/example/tenderbook/tenderbook/core/Term", "compareTo", "(Lcom/example/tenderbook/tenderbook/core/Term;)I"⟩ : MethodName) prog_56_method_6_code 2 (some .int) :: ws) ({ frames := 1, cells := 0, slots := 0, locals := 13 } : Room)) (fun a U => a = #[(.ref this), (.ref r1)] ∧ Z.Warmed39 U.vm ∧ U.heap = h0) (fun _ _ _ _ _ => True) (fun _ U o U' => ∃ v L, o = .returned v ∧ own_q_own_r4 Z this r1 z1 z2 h0 n0 v U'.heap L ∧ FrameEnd U o U' L ({ frames := 1, cells := 0, slots := 0, locals := 13 } : Room).cells ({ frames := 1, cells := 0, slots := 0, locals := 13 } : Room).slots) := by
  refine MetFree.of_bodySF (plainFor_of_name own_pn_Term) hisR ?_
  intro p e s m args below meth c T0 Bd hml0 hP hK
  obtain ⟨rfl, hZ, hh⟩ := hP
  have hx := Bd.exec
  have hby := Bd.bytes
  have hml : c.maxLocals = 2 := hml0
  have hown : s.vm.findClass "com/example/tenderbook/tenderbook/core/Term" = some m.cls := findClass_of_methodNamed Bd.named
  have hnm := (name_of_methodNamed Bd.named Bd.method).1
  have hret : meth.sig.returnType = (some .int) := Bd.returns
  have hlk : meth.locks = false := BodyLoose.notSynchronized Bd
  have X0 : Stand p l e ({ frames := 1, cells := 0, slots := 0, locals := 13 } : Room) s m #[(.ref this), (.ref r1)] below meth c T0 [] 0 0 := Stand.of_body Bd
  have e0 : T0.heap = h0 := by rw [← hh, Bd.state]; rfl
  have N0 := Fr.nil n0
  refine own_start (own_ef4 m this r1) (Q := fun (v : Option Value) (h : Heap) (L : List Loc) => v = some (.int (own_f5 z1 z2)) ∧ Fr n0 L ∧ h = h0) (k := 0) (j := 0) ?_
  show own_Go p e below T0 (mkF m 0 #[.val (.ref this), .val (.ref r1)] []) _
  refine own_s_aloadN X0.here hx (hb hby own_d4_0) rfl rfl ?_
  obtain ⟨T5, X5, e5, st5⟩ := getF X0 hx hZ hown (host := "") (Or.inl (hw _ (List.mem_of_getElem? (i := 14) rfl))) Via.refl e0 F_this_totalMonths (g := (mkF m 1 #[.val (.ref this), .val (.ref r1)] [(.ref this)])) rfl rfl (hb hby own_d4_1)
  refine own_by st5 ?_
  show own_Go p e below T5 (mkF m 4 #[.val (.ref this), .val (.ref r1)] [(.int z1)]) _
  refine own_s_aloadN X5.here hx (hb hby own_d4_4) rfl rfl ?_
  obtain ⟨T6, X6, e6, st6⟩ := getF X5 hx hZ hown (host := "") (Or.inl (hw _ (List.mem_of_getElem? (i := 14) rfl))) Via.refl e5 F_r1_totalMonths (g := (mkF m 5 #[.val (.ref this), .val (.ref r1)] [(.ref r1), (.int z1)])) rfl rfl (hb hby own_d4_5)
  refine own_by st6 ?_
  show own_Go p e below T6 (mkF m 8 #[.val (.ref this), .val (.ref r1)] [(.int z2), (.int z1)]) _
  obtain ⟨_, _, ⟨T7, L7, k7, n7⟩, -, X7, ⟨Lc7, hQ7, l7, y7, z7⟩, st7⟩ := Jvm.LawKit.callS X6 hx (y := (⟨"java/lang/Integer", "compare", "(II)I"⟩ : MethodName)) hown (mvT hZ (hw _ (List.mem_of_getElem? (i := 21) rfl))) (mvT hZ (hw _ (List.mem_of_getElem? (i := 22) rfl))) (mvT hZ (hw _ (List.mem_of_getElem? (i := 23) rfl))) (mvT hZ (hw _ (List.mem_of_getElem? (i := 24) rfl))) (by decide) (backOf (W := 0) (own_r5 l Z a0 hw [] z1 z2  h0 n0 Z0 ) hZ (hw _ (List.mem_of_getElem? (i := 24) rfl)) (hw _ (List.mem_of_getElem? (i := 23) rfl)) (by decide) (by decide)) (g := (mkF m 8 #[.val (.ref this), .val (.ref r1)] [(.int z2), (.int z1)])) rfl (by rw [hml]; rfl) (argsL := [(.int z1), (.int z2)]) (rest := []) (lenOf own_pd_3 rfl) rfl (by show 2 * 0 + _ ≤ _; exact Nat.le_of_eq rfl) (hb hby own_d4_8) (fun _ _ => ⟨rfl, e6, (by decide : 0 + 0 ≤ _), (by decide : 0 + 0 ≤ _)⟩)
  dsimp only [Pt.U, Pt.locs, Pt.cells, Pt.slots] at X7 l7 y7 z7 st7 hQ7
  subst l7 y7 z7
  obtain ⟨rfl, N7q, e7⟩ := hQ7
  have N7 := Fr.app N0 N7q
  refine own_by st7 ?_
  show own_Go p e below T7 (mkF m 11 #[.val (.ref this), .val (.ref r1)] [(.int (own_f5 z1 z2))]) _
  refine own_retI X7 hx hret hlk (hb hby own_d4_11) (by decide) (by decide) ?_
  exact ⟨rfl, N7, e7⟩
theorem own_lt {u v : Int32} (h : u < v) : own_f5 u v = (-1 : Int32) := by unfold own_f5; rw [if_pos h]
theorem own_eq {u v : Int32} (h : u = v) : own_f5 u v = (0 : Int32) := by
  subst h; unfold own_f5; rw [if_neg (Int32.lt_irrefl), if_pos rfl]
theorem own_gt {u v : Int32} (h : v < u) : own_f5 u v = (1 : Int32) := by
  unfold own_f5
  rw [if_neg (fun q => absurd (Int32.lt_trans h q) Int32.lt_irrefl), if_neg (fun q => by subst q; exact Int32.lt_irrefl h)]
theorem own_ant {u v : Int32} (h1 : ¬ u < v) (h2 : ¬ v < u) : u = v := by
  apply Int32.toInt_inj.mp
  rw [Int32.lt_iff_toInt_lt] at h1 h2
  omega
theorem own_pn_TermCompareToPinLaw : plainName "com/example/tenderbook/tenderbook/core/TermCompareToPinLaw" = true := by first | (simp [plainName, overriddenIn]; done) | decide +kernel
theorem own_ml : maxLocals = 8 := rfl
theorem own_ef0 (m : MethodId) (x0 : Int32) (y0 : Int32) : entryFrame m #[(.int x0), (.int y0)] maxLocals = mkF m 0 #[.val (.int x0), .val (.int y0), .unset, .unset, .unset, .unset, .unset, .unset] [] := by first | (simp [entryFrame, mkF, argsToLocals, Value.category, maxLocals]; done) | rfl
theorem own_pd_0 : parseMethodDescriptor "(I)V" = some ⟨[.int], none⟩ := by decide +kernel
theorem own_pd_2 : parseMethodDescriptor "(Lcom/example/tenderbook/tenderbook/core/Term;)I" = some ⟨[(.object "com/example/tenderbook/tenderbook/core/Term")], some .int⟩ := by decide +kernel
def own_q_own_r0 (Z : State) (x0 : Int32) (y0 : Int32) (h0 : Heap) (n0 : Nat) (v : Option Value) (h : Heap) (L : List Loc) : Prop := v = some (.int 1) ∧ Fr n0 L
set_option maxRecDepth 65536 in
set_option maxHeartbeats 40000000 in
theorem own_r0 (l : Launch) (Z : State) (a0 : Array Value) (hw : ∀ d ∈ tables_1, d.before a0 Z = true) (ws : List Jvm.Cond) (x0 : Int32) (y0 : Int32) (h0 : Heap) (n0 : Nat) (Z0 : n0 ≤ h0.size) :
    MetFree l x (head1 (Jvm.Cond.code x code maxLocals ret :: ws) room_1) (fun a U => a = #[(.int x0), (.int y0)] ∧ Z.Warmed39 U.vm ∧ U.heap = h0) (fun _ _ _ _ _ => True) (fun _ U o U' => ∃ v L, o = .returned v ∧ own_q_own_r0 Z x0 y0 h0 n0 v U'.heap L ∧ FrameEnd U o U' L 16 128) := by
  refine MetFree.of_bodySF (plainFor_of_name own_pn_TermCompareToPinLaw) hisR ?_
  intro p e s m args below meth c T0 Bd hml0 hP hK
  obtain ⟨rfl, hZ, hh⟩ := hP
  have hx := Bd.exec
  have hby := Bd.bytes
  have hml : c.maxLocals = 8 := hml0
  have hown : s.vm.findClass "com/example/tenderbook/tenderbook/core/TermCompareToPinLaw" = some m.cls := findClass_of_methodNamed Bd.named
  have hnm := (name_of_methodNamed Bd.named Bd.method).1
  have hret : meth.sig.returnType = (some .boolean) := Bd.returns
  have hlk : meth.locks = false := BodyLoose.notSynchronized Bd
  have X0 : Stand p l e room_1 s m #[(.int x0), (.int y0)] below meth c T0 [] 0 0 := Stand.of_body Bd
  have e0 : T0.heap = h0 := by rw [← hh, Bd.state]; rfl
  have N0 := Fr.nil n0
  refine own_start (own_ef0 m x0 y0) (Q := fun (v : Option Value) (h : Heap) (L : List Loc) => v = some (.int 1) ∧ Fr n0 L) (k := 16) (j := 128) ?_
  show own_Go p e below T0 (mkF m 0 #[.val (.int x0), .val (.int y0), .unset, .unset, .unset, .unset, .unset, .unset] []) _
  obtain ⟨T8, h8, X8, e8, E8, A8, D8, -, st8⟩ := newO X0 hx hZ hown (hw _ (List.mem_of_getElem? (i := 0) rfl)) (hw _ (List.mem_of_getElem? (i := 1) rfl)) (hw _ (List.mem_of_getElem? (i := 2) rfl)) e0 (g := (mkF m 0 #[.val (.int x0), .val (.int y0), .unset, .unset, .unset, .unset, .unset, .unset] [])) rfl (hb hby at_0) (by decide) (by decide)
  obtain ⟨b8, g8⟩ : ∃ z, z = h0.size := ⟨_, rfl⟩
  rw [← g8] at A8 D8 st8
  have ge_b8 : n0 ≤ b8 := Nat.le_trans Z0 (Nat.le_of_eq g8.symm)
  have SZ8 : n0 ≤ h8.size := Nat.le_trans Z0 E8.1
  have f9 : Fld Z h8 b8 "com/example/tenderbook/tenderbook/core/Term" "totalMonths" "I" (.int (0 : Int32)) := D8 (Or.inr (hw _ (List.mem_of_getElem? (i := 15) rfl))) (ty := .int) (by decide)
  refine own_by st8 ?_
  show own_Go p e below T8 (mkF m 3 #[.val (.int x0), .val (.int y0), .unset, .unset, .unset, .unset, .unset, .unset] [(.ref b8)]) _
  refine own_s_dup X8.here hx (hb hby at_3) rfl ?_
  refine own_s_iloadN X8.here hx (hb hby at_4) rfl ?_
  obtain ⟨_, _, ⟨T10, L10, k10, n10⟩, -, X10, ⟨Lc10, hQ10, l10, y10, z10⟩, st10⟩ := X8.specialBack hx (y := (⟨"com/example/tenderbook/tenderbook/core/Term", "<init>", "(I)V"⟩ : MethodName)) rfl hown (mvT hZ (hw _ (List.mem_of_getElem? (i := 3) rfl))) (mvT hZ (hw _ (List.mem_of_getElem? (i := 4) rfl))) (mvT hZ (hw _ (List.mem_of_getElem? (i := 5) rfl))) (by decide) (backOf (W := 1) (own_r1 l Z a0 hw [] b8 x0  h8 n0 SZ8 A8 f9 ge_b8) hZ (hw _ (List.mem_of_getElem? (i := 5) rfl)) (hw _ (List.mem_of_getElem? (i := 2) rfl)) (by decide) (by decide)) (g := (mkF m 5 #[.val (.int x0), .val (.int y0), .unset, .unset, .unset, .unset, .unset, .unset] [(.int x0), (.ref b8), (.ref b8)])) rfl (by rw [hml]; rfl) (Steps.refl _) (a := b8) (argsL := [(.int x0)]) (rest := [(.ref b8)]) (lenOf own_pd_0 rfl) rfl (by show 2 * 0 + _ ≤ _; exact Nat.le_of_eq rfl) (hb hby at_5) (fun _ _ => ⟨rfl, e8, (by decide : 1 + 0 ≤ _), (by decide : 1 + 0 ≤ _)⟩)
  dsimp only [Pt.U, Pt.locs, Pt.cells, Pt.slots] at X10 l10 y10 z10 st10 hQ10
  subst l10 y10 z10
  obtain ⟨rfl, N10q, K10, fs10⟩ := hQ10
  have N10 := Fr.app N0 N10q
  have f11 := A8.keep K10
  have SZ10 : n0 ≤ T10.heap.size := Nat.le_trans SZ8 K10.1
  refine own_by (fun t k => st10.trans k) ?_
  show own_Go p e below T10 (mkF m 8 #[.val (.int x0), .val (.int y0), .unset, .unset, .unset, .unset, .unset, .unset] [(.ref b8)]) _
  refine own_s_astoreN X10.here hx #[.val (.int x0), .val (.int y0), .val (.ref b8), .unset, .unset, .unset, .unset, .unset] (hb hby at_8) rfl rfl ?_
  obtain ⟨T12, h12, X12, e12, E12, A12, D12, -, st12⟩ := newO X10 hx hZ hown (hw _ (List.mem_of_getElem? (i := 0) rfl)) (hw _ (List.mem_of_getElem? (i := 1) rfl)) (hw _ (List.mem_of_getElem? (i := 2) rfl)) rfl (g := (mkF m 9 #[.val (.int x0), .val (.int y0), .val (.ref b8), .unset, .unset, .unset, .unset, .unset] [])) rfl (hb hby at_9) (by decide) (by decide)
  obtain ⟨b12, g12⟩ : ∃ z, z = T10.heap.size := ⟨_, rfl⟩
  rw [← g12] at A12 D12 st12
  have ge_b12 : n0 ≤ b12 := Nat.le_trans SZ10 (Nat.le_of_eq g12.symm)
  have ne_b8_b12 : b8 ≠ b12 := Nat.ne_of_lt (Nat.lt_of_lt_of_le f11.lt (Nat.le_of_eq g12.symm))
  have f13 := f11.ext E12
  have f14 := fs10.ext E12
  have SZ12 : n0 ≤ h12.size := Nat.le_trans SZ10 E12.1
  have f15 : Fld Z h12 b12 "com/example/tenderbook/tenderbook/core/Term" "totalMonths" "I" (.int (0 : Int32)) := D12 (Or.inr (hw _ (List.mem_of_getElem? (i := 15) rfl))) (ty := .int) (by decide)
  refine own_by st12 ?_
  show own_Go p e below T12 (mkF m 12 #[.val (.int x0), .val (.int y0), .val (.ref b8), .unset, .unset, .unset, .unset, .unset] [(.ref b12)]) _
  refine own_s_dup X12.here hx (hb hby at_12) rfl ?_
  refine own_s_iloadN X12.here hx (hb hby at_13) rfl ?_
  obtain ⟨_, _, ⟨T16, L16, k16, n16⟩, -, X16, ⟨Lc16, hQ16, l16, y16, z16⟩, st16⟩ := X12.specialBack hx (y := (⟨"com/example/tenderbook/tenderbook/core/Term", "<init>", "(I)V"⟩ : MethodName)) rfl hown (mvT hZ (hw _ (List.mem_of_getElem? (i := 3) rfl))) (mvT hZ (hw _ (List.mem_of_getElem? (i := 4) rfl))) (mvT hZ (hw _ (List.mem_of_getElem? (i := 5) rfl))) (by decide) (backOf (W := 1) (own_r1 l Z a0 hw [] b12 y0  h12 n0 SZ12 A12 f15 ge_b12) hZ (hw _ (List.mem_of_getElem? (i := 5) rfl)) (hw _ (List.mem_of_getElem? (i := 2) rfl)) (by decide) (by decide)) (g := (mkF m 14 #[.val (.int x0), .val (.int y0), .val (.ref b8), .unset, .unset, .unset, .unset, .unset] [(.int y0), (.ref b12), (.ref b12)])) rfl (by rw [hml]; rfl) (Steps.refl _) (a := b12) (argsL := [(.int y0)]) (rest := [(.ref b12)]) (lenOf own_pd_0 rfl) rfl (by show 2 * 0 + _ ≤ _; exact Nat.le_of_eq rfl) (hb hby at_14) (fun _ _ => ⟨rfl, e12, (by decide : 2 + 0 ≤ _), (by decide : 2 + 0 ≤ _)⟩)
  dsimp only [Pt.U, Pt.locs, Pt.cells, Pt.slots] at X16 l16 y16 z16 st16 hQ16
  subst l16 y16 z16
  obtain ⟨rfl, N16q, K16, fs16⟩ := hQ16
  have N16 := Fr.app N10 N16q
  have f17 := f13.keep K16
  have f18 := f14.keep K16 (ninS ne_b8_b12 nin0)
  have f19 := A12.keep K16
  have SZ16 : n0 ≤ T16.heap.size := Nat.le_trans SZ12 K16.1
  refine own_by (fun t k => st16.trans k) ?_
  show own_Go p e below T16 (mkF m 17 #[.val (.int x0), .val (.int y0), .val (.ref b8), .unset, .unset, .unset, .unset, .unset] [(.ref b12)]) _
  refine own_s_astoreN X16.here hx #[.val (.int x0), .val (.int y0), .val (.ref b8), .val (.ref b12), .unset, .unset, .unset, .unset] (hb hby at_17) rfl rfl ?_
  refine own_s_aloadN X16.here hx (hb hby at_18) rfl rfl ?_
  refine own_s_aloadN X16.here hx (hb hby at_19) rfl rfl ?_
  obtain ⟨cq20, kq20, q20a, q20b, q20c⟩ := isOf hZ rfl f17
  obtain ⟨_, _, ⟨T20, L20, k20, n20⟩, -, X20, ⟨Lc20, hQ20, l20, y20, z20⟩, st20⟩ := X16.virtualBack hx (y := (⟨"com/example/tenderbook/tenderbook/core/Term", "compareTo", "(Lcom/example/tenderbook/tenderbook/core/Term;)I"⟩ : MethodName)) (z := (⟨"com/example/tenderbook/tenderbook/core/Term", "compareTo", "(Lcom/example/tenderbook/tenderbook/core/Term;)I"⟩ : MethodName)) hown (mvT hZ (hw _ (List.mem_of_getElem? (i := 16) rfl))) (mvT hZ (hw _ (List.mem_of_getElem? (i := 17) rfl))) (notFace_of_selects (args := #[]) (mvT hZ (hw _ (List.mem_of_getElem? (i := 19) rfl)))) (mvT hZ (hw _ (List.mem_of_getElem? (i := 19) rfl))) (mvT hZ (hw _ (List.mem_of_getElem? (i := 18) rfl))) (by decide) (backOf (W := 0) (own_r4 l Z a0 hw [] b8 b12 x0 y0 T16.heap n0 SZ16 f18 fs16) hZ (hw _ (List.mem_of_getElem? (i := 20) rfl)) (hw _ (List.mem_of_getElem? (i := 2) rfl)) (by decide) (by decide)) q20a q20c (g := (mkF m 20 #[.val (.int x0), .val (.int y0), .val (.ref b8), .val (.ref b12), .unset, .unset, .unset, .unset] [(.ref b12), (.ref b8)])) rfl (by rw [hml]; rfl) (Steps.refl _) (argsL := [(.ref b12)]) (rest := []) (lenOf own_pd_2 rfl) rfl (by show 2 * 0 + _ ≤ _; exact Nat.le_of_eq rfl) (hb hby at_20) (fun _ _ => ⟨rfl, rfl, (by decide : 2 + 0 ≤ _), (by decide : 2 + 0 ≤ _)⟩)
  dsimp only [Pt.U, Pt.locs, Pt.cells, Pt.slots] at X20 l20 y20 z20 st20 hQ20
  subst l20 y20 z20
  obtain ⟨rfl, N20q, e20⟩ := hQ20
  have N20 := Fr.app N16 N20q
  refine own_by (fun t k => st20.trans k) ?_
  show own_Go p e below T20 (mkF m 23 #[.val (.int x0), .val (.int y0), .val (.ref b8), .val (.ref b12), .unset, .unset, .unset, .unset] [(.int (own_f5 x0 y0))]) _
  refine own_s_istore X20.here hx #[.val (.int x0), .val (.int y0), .val (.ref b8), .val (.ref b12), .val (.int (own_f5 x0 y0)), .unset, .unset, .unset] (hb hby at_23) rfl ?_
  refine own_s_aloadN X20.here hx (hb hby at_25) rfl rfl ?_
  refine own_s_aloadN X20.here hx (hb hby at_26) rfl rfl ?_
  obtain ⟨cq21, kq21, q21a, q21b, q21c⟩ := isOf hZ e20 f19
  obtain ⟨_, _, ⟨T21, L21, k21, n21⟩, -, X21, ⟨Lc21, hQ21, l21, y21, z21⟩, st21⟩ := X20.virtualBack hx (y := (⟨"com/example/tenderbook/tenderbook/core/Term", "compareTo", "(Lcom/example/tenderbook/tenderbook/core/Term;)I"⟩ : MethodName)) (z := (⟨"com/example/tenderbook/tenderbook/core/Term", "compareTo", "(Lcom/example/tenderbook/tenderbook/core/Term;)I"⟩ : MethodName)) hown (mvT hZ (hw _ (List.mem_of_getElem? (i := 16) rfl))) (mvT hZ (hw _ (List.mem_of_getElem? (i := 17) rfl))) (notFace_of_selects (args := #[]) (mvT hZ (hw _ (List.mem_of_getElem? (i := 19) rfl)))) (mvT hZ (hw _ (List.mem_of_getElem? (i := 19) rfl))) (mvT hZ (hw _ (List.mem_of_getElem? (i := 18) rfl))) (by decide) (backOf (W := 0) (own_r4 l Z a0 hw [] b12 b8 y0 x0 T16.heap n0 SZ16 fs16 f18) hZ (hw _ (List.mem_of_getElem? (i := 20) rfl)) (hw _ (List.mem_of_getElem? (i := 2) rfl)) (by decide) (by decide)) q21a q21c (g := (mkF m 27 #[.val (.int x0), .val (.int y0), .val (.ref b8), .val (.ref b12), .val (.int (own_f5 x0 y0)), .unset, .unset, .unset] [(.ref b8), (.ref b12)])) rfl (by rw [hml]; rfl) (Steps.refl _) (argsL := [(.ref b8)]) (rest := []) (lenOf own_pd_2 rfl) rfl (by show 2 * 0 + _ ≤ _; exact Nat.le_of_eq rfl) (hb hby at_27) (fun _ _ => ⟨rfl, e20, (by decide : 2 + 0 ≤ _), (by decide : 2 + 0 ≤ _)⟩)
  dsimp only [Pt.U, Pt.locs, Pt.cells, Pt.slots] at X21 l21 y21 z21 st21 hQ21
  subst l21 y21 z21
  obtain ⟨rfl, N21q, e21⟩ := hQ21
  have N21 := Fr.app N20 N21q
  refine own_by (fun t k => st21.trans k) ?_
  show own_Go p e below T21 (mkF m 30 #[.val (.int x0), .val (.int y0), .val (.ref b8), .val (.ref b12), .val (.int (own_f5 x0 y0)), .unset, .unset, .unset] [(.int (own_f5 y0 x0))]) _
  refine own_s_istore X21.here hx #[.val (.int x0), .val (.int y0), .val (.ref b8), .val (.ref b12), .val (.int (own_f5 x0 y0)), .val (.int (own_f5 y0 x0)), .unset, .unset] (hb hby at_30) rfl ?_
  refine own_s_aloadN X21.here hx (hb hby at_32) rfl rfl ?_
  refine own_s_aloadN X21.here hx (hb hby at_33) rfl rfl ?_
  obtain ⟨cq22, kq22, q22a, q22b, q22c⟩ := isOf hZ e21 f17
  obtain ⟨_, _, ⟨T22, L22, k22, n22⟩, -, X22, ⟨Lc22, hQ22, l22, y22, z22⟩, st22⟩ := X21.virtualBack hx (y := (⟨"com/example/tenderbook/tenderbook/core/Term", "compareTo", "(Lcom/example/tenderbook/tenderbook/core/Term;)I"⟩ : MethodName)) (z := (⟨"com/example/tenderbook/tenderbook/core/Term", "compareTo", "(Lcom/example/tenderbook/tenderbook/core/Term;)I"⟩ : MethodName)) hown (mvT hZ (hw _ (List.mem_of_getElem? (i := 16) rfl))) (mvT hZ (hw _ (List.mem_of_getElem? (i := 17) rfl))) (notFace_of_selects (args := #[]) (mvT hZ (hw _ (List.mem_of_getElem? (i := 19) rfl)))) (mvT hZ (hw _ (List.mem_of_getElem? (i := 19) rfl))) (mvT hZ (hw _ (List.mem_of_getElem? (i := 18) rfl))) (by decide) (backOf (W := 0) (own_r4 l Z a0 hw [] b8 b8 x0 x0 T16.heap n0 SZ16 f18 f18) hZ (hw _ (List.mem_of_getElem? (i := 20) rfl)) (hw _ (List.mem_of_getElem? (i := 2) rfl)) (by decide) (by decide)) q22a q22c (g := (mkF m 34 #[.val (.int x0), .val (.int y0), .val (.ref b8), .val (.ref b12), .val (.int (own_f5 x0 y0)), .val (.int (own_f5 y0 x0)), .unset, .unset] [(.ref b8), (.ref b8)])) rfl (by rw [hml]; rfl) (Steps.refl _) (argsL := [(.ref b8)]) (rest := []) (lenOf own_pd_2 rfl) rfl (by show 2 * 0 + _ ≤ _; exact Nat.le_of_eq rfl) (hb hby at_34) (fun _ _ => ⟨rfl, e21, (by decide : 2 + 0 ≤ _), (by decide : 2 + 0 ≤ _)⟩)
  dsimp only [Pt.U, Pt.locs, Pt.cells, Pt.slots] at X22 l22 y22 z22 st22 hQ22
  subst l22 y22 z22
  obtain ⟨rfl, N22q, e22⟩ := hQ22
  have N22 := Fr.app N21 N22q
  refine own_by (fun t k => st22.trans k) ?_
  show own_Go p e below T22 (mkF m 37 #[.val (.int x0), .val (.int y0), .val (.ref b8), .val (.ref b12), .val (.int (own_f5 x0 y0)), .val (.int (own_f5 y0 x0)), .unset, .unset] [(.int (own_f5 x0 x0))]) _
  refine own_s_istore X22.here hx #[.val (.int x0), .val (.int y0), .val (.ref b8), .val (.ref b12), .val (.int (own_f5 x0 y0)), .val (.int (own_f5 y0 x0)), .val (.int (own_f5 x0 x0)), .unset] (hb hby at_37) rfl ?_
  refine own_s_iloadN X22.here hx (hb hby at_39) rfl ?_
  refine own_s_iloadN X22.here hx (hb hby at_40) rfl ?_
  by_cases hc41 : x0 < y0
  ·
    refine own_s_icmpNo X22.here hx (hb hby at_41) (Jvm.Free.XT.ii_ge_f hc41) ?_
    refine own_s_iload X22.here hx (hb hby at_44) rfl ?_
    refine own_s_ifNo X22.here hx (hb hby at_46) (Jvm.Free.XT.i0_ge_f ((by rw [own_lt hc41]; decide))) ?_
    refine own_s_iload X22.here hx (hb hby at_49) rfl ?_
    refine own_s_ifNo X22.here hx (hb hby at_51) (Jvm.Free.XT.i0_le_f ((by rw [own_gt hc41]; decide))) ?_
    refine own_s_iconst X22.here hx (1 : Int32) (hb hby at_54) rfl ?_
    show own_Go p e below T22 (mkF m 55 #[.val (.int x0), .val (.int y0), .val (.ref b8), .val (.ref b12), .val (.int (own_f5 x0 y0)), .val (.int (own_f5 y0 x0)), .val (.int (own_f5 x0 x0)), .unset] [(.int (1 : Int32))]) _
    refine own_s_goto X22.here hx 59 (hb hby at_55) (by decide) (by decide) ?_
    refine own_s_istore X22.here hx #[.val (.int x0), .val (.int y0), .val (.ref b8), .val (.ref b12), .val (.int (own_f5 x0 y0)), .val (.int (own_f5 y0 x0)), .val (.int (own_f5 x0 x0)), .val (.int (1 : Int32))] (hb hby at_59) rfl ?_
    show own_Go p e below T22 (mkF m 61 #[.val (.int x0), .val (.int y0), .val (.ref b8), .val (.ref b12), .val (.int (own_f5 x0 y0)), .val (.int (own_f5 y0 x0)), .val (.int (own_f5 x0 x0)), .val (.int (1 : Int32))] []) _
    refine own_s_goto X22.here hx 106 (hb hby at_61) (by decide) (by decide) ?_
    refine own_s_iload X22.here hx (hb hby at_106) rfl ?_
    refine own_s_ifNo X22.here hx (hb hby at_108) (Jvm.Free.XT.i0_eq_f ((by decide))) ?_
    refine own_s_iload X22.here hx (hb hby at_111) rfl ?_
    refine own_s_ifNo X22.here hx (hb hby at_113) (Jvm.Free.XT.i0_ne_f ((own_eq rfl))) ?_
    refine own_s_iconst X22.here hx (1 : Int32) (hb hby at_116) rfl ?_
    show own_Go p e below T22 (mkF m 117 #[.val (.int x0), .val (.int y0), .val (.ref b8), .val (.ref b12), .val (.int (own_f5 x0 y0)), .val (.int (own_f5 y0 x0)), .val (.int (own_f5 x0 x0)), .val (.int (1 : Int32))] [(.int (1 : Int32))]) _
    refine own_s_goto X22.here hx 121 (hb hby at_117) (by decide) (by decide) ?_
    refine own_retZ X22 hx hret hlk (hb hby at_121) rfl (by decide) (by decide) ?_
    exact ⟨rfl, N22⟩
  ·
    show own_Go p e below T22 (mkF m 41 #[.val (.int x0), .val (.int y0), .val (.ref b8), .val (.ref b12), .val (.int (own_f5 x0 y0)), .val (.int (own_f5 y0 x0)), .val (.int (own_f5 x0 x0)), .unset] [(.int y0), (.int x0)]) _
    refine own_s_icmpYes X22.here hx 64 (hb hby at_41) (Jvm.Free.XT.ii_ge_t hc41) (by decide) (by decide) ?_
    refine own_s_iloadN X22.here hx (hb hby at_64) rfl ?_
    refine own_s_iloadN X22.here hx (hb hby at_65) rfl ?_
    by_cases hc66 : y0 < x0
    ·
      refine own_s_icmpNo X22.here hx (hb hby at_66) (Jvm.Free.XT.ii_le_f hc66) ?_
      refine own_s_iload X22.here hx (hb hby at_69) rfl ?_
      refine own_s_ifNo X22.here hx (hb hby at_71) (Jvm.Free.XT.i0_le_f ((by rw [own_gt hc66]; decide))) ?_
      refine own_s_iload X22.here hx (hb hby at_74) rfl ?_
      refine own_s_ifNo X22.here hx (hb hby at_76) (Jvm.Free.XT.i0_ge_f ((by rw [own_lt hc66]; decide))) ?_
      refine own_s_iconst X22.here hx (1 : Int32) (hb hby at_79) rfl ?_
      show own_Go p e below T22 (mkF m 80 #[.val (.int x0), .val (.int y0), .val (.ref b8), .val (.ref b12), .val (.int (own_f5 x0 y0)), .val (.int (own_f5 y0 x0)), .val (.int (own_f5 x0 x0)), .unset] [(.int (1 : Int32))]) _
      refine own_s_goto X22.here hx 84 (hb hby at_80) (by decide) (by decide) ?_
      refine own_s_istore X22.here hx #[.val (.int x0), .val (.int y0), .val (.ref b8), .val (.ref b12), .val (.int (own_f5 x0 y0)), .val (.int (own_f5 y0 x0)), .val (.int (own_f5 x0 x0)), .val (.int (1 : Int32))] (hb hby at_84) rfl ?_
      show own_Go p e below T22 (mkF m 86 #[.val (.int x0), .val (.int y0), .val (.ref b8), .val (.ref b12), .val (.int (own_f5 x0 y0)), .val (.int (own_f5 y0 x0)), .val (.int (own_f5 x0 x0)), .val (.int (1 : Int32))] []) _
      refine own_s_goto X22.here hx 106 (hb hby at_86) (by decide) (by decide) ?_
      refine own_s_iload X22.here hx (hb hby at_106) rfl ?_
      refine own_s_ifNo X22.here hx (hb hby at_108) (Jvm.Free.XT.i0_eq_f ((by decide))) ?_
      refine own_s_iload X22.here hx (hb hby at_111) rfl ?_
      refine own_s_ifNo X22.here hx (hb hby at_113) (Jvm.Free.XT.i0_ne_f ((own_eq rfl))) ?_
      refine own_s_iconst X22.here hx (1 : Int32) (hb hby at_116) rfl ?_
      show own_Go p e below T22 (mkF m 117 #[.val (.int x0), .val (.int y0), .val (.ref b8), .val (.ref b12), .val (.int (own_f5 x0 y0)), .val (.int (own_f5 y0 x0)), .val (.int (own_f5 x0 x0)), .val (.int (1 : Int32))] [(.int (1 : Int32))]) _
      refine own_s_goto X22.here hx 121 (hb hby at_117) (by decide) (by decide) ?_
      refine own_retZ X22 hx hret hlk (hb hby at_121) rfl (by decide) (by decide) ?_
      exact ⟨rfl, N22⟩
    ·
      show own_Go p e below T22 (mkF m 66 #[.val (.int x0), .val (.int y0), .val (.ref b8), .val (.ref b12), .val (.int (own_f5 x0 y0)), .val (.int (own_f5 y0 x0)), .val (.int (own_f5 x0 x0)), .unset] [(.int y0), (.int x0)]) _
      refine own_s_icmpYes X22.here hx 89 (hb hby at_66) (Jvm.Free.XT.ii_le_t hc66) (by decide) (by decide) ?_
      refine own_s_iload X22.here hx (hb hby at_89) rfl ?_
      refine own_s_ifNo X22.here hx (hb hby at_91) (Jvm.Free.XT.i0_ne_f ((own_eq (own_ant hc41 hc66)))) ?_
      refine own_s_iload X22.here hx (hb hby at_94) rfl ?_
      refine own_s_ifNo X22.here hx (hb hby at_96) (Jvm.Free.XT.i0_ne_f ((own_eq (own_ant hc41 hc66).symm))) ?_
      refine own_s_iconst X22.here hx (1 : Int32) (hb hby at_99) rfl ?_
      show own_Go p e below T22 (mkF m 100 #[.val (.int x0), .val (.int y0), .val (.ref b8), .val (.ref b12), .val (.int (own_f5 x0 y0)), .val (.int (own_f5 y0 x0)), .val (.int (own_f5 x0 x0)), .unset] [(.int (1 : Int32))]) _
      refine own_s_goto X22.here hx 104 (hb hby at_100) (by decide) (by decide) ?_
      refine own_s_istore X22.here hx #[.val (.int x0), .val (.int y0), .val (.ref b8), .val (.ref b12), .val (.int (own_f5 x0 y0)), .val (.int (own_f5 y0 x0)), .val (.int (own_f5 x0 x0)), .val (.int (1 : Int32))] (hb hby at_104) rfl ?_
      refine own_s_iload X22.here hx (hb hby at_106) rfl ?_
      refine own_s_ifNo X22.here hx (hb hby at_108) (Jvm.Free.XT.i0_eq_f ((by decide))) ?_
      refine own_s_iload X22.here hx (hb hby at_111) rfl ?_
      refine own_s_ifNo X22.here hx (hb hby at_113) (Jvm.Free.XT.i0_ne_f ((own_eq rfl))) ?_
      refine own_s_iconst X22.here hx (1 : Int32) (hb hby at_116) rfl ?_
      show own_Go p e below T22 (mkF m 117 #[.val (.int x0), .val (.int y0), .val (.ref b8), .val (.ref b12), .val (.int (own_f5 x0 y0)), .val (.int (own_f5 y0 x0)), .val (.int (own_f5 x0 x0)), .val (.int (1 : Int32))] [(.int (1 : Int32))]) _
      refine own_s_goto X22.here hx 121 (hb hby at_117) (by decide) (by decide) ?_
      refine own_retZ X22 hx hret hlk (hb hby at_121) rfl (by decide) (by decide) ?_
      exact ⟨rfl, N22⟩
set_option maxRecDepth 65536 in
set_option maxHeartbeats 40000000 in
theorem own_comes {Post : Tables → Env → Array Value → State → Outcome → State → Prop} (hpost : ∀ tb e args s v u, (limb_1_1.after args s (.returned v) u = true ∧ limb_1_2.after args s (.returned v) u = true ∧ True) → FrameEnd s (.returned v) u (Jvm.fieldLocs frame_1_writes args s ++ Jvm.arrayLocs frame_1_arrays args s ++ Jvm.staticLocs frame_1_statics s) 16 128 → Post tb e args s (.returned v) u) :
    ArmFor flags0 classFile x code maxLocals ret World_1 tables_1 room_1 Calls_1 rest_1 Pre_1 Post := by
  intro l hfl _ _ p e ha hc hk s m args below hf hA hF happ hP
  obtain ⟨hcalls, hrest, hpre⟩ := hP
  obtain ⟨-, -, -, hnamed, -, -, -, hat⟩ := (Spec.applies_iff hf).mp happ
  obtain ⟨hg, hn⟩ := and_e (Cond.before_iff.mp (show (Jvm.Cond.and given_1 narrow_1).before args s = true from hpre))
  obtain ⟨g1, g2⟩ := and_e hg
  obtain ⟨g3, g4⟩ := and_e g2
  obtain ⟨w0, w1, rfl⟩ : ∃ w0 w1 : Value, args = #[w0, w1] := by
    have hs : args.size = 2 := by simpa [Cond.value, given_1] using g1
    obtain ⟨L⟩ := args
    match L, hs with
    | [w0, w1], _ => exact ⟨w0, w1, rfl⟩
  have hw := fun d (hd : d ∈ tables_1) => atoms_spec (ws := Jvm.Cond.code x code maxLocals ret :: tables_1) hat d (List.mem_cons_of_mem _ hd)
  obtain ⟨i0, ei0⟩ := is_v g3
  obtain rfl : w0 = (.int i0) := Option.some.inj ei0
  obtain ⟨i1, ei1⟩ := is_v g4
  obtain rfl : w1 = (.int i1) := Option.some.inj ei1
  obtain ⟨n, o, h1, h2, h3, _, L, rfl, ⟨rfl, N⟩, hq⟩ := own_r0 l s _ hw tables_1 i0 i1 s.heap s.heap.size (Nat.le_refl _) p e ha hc hk s m _ below hf ((Spec.applies_iff_loose hf).mp happ).1 ⟨rfl, State.Warmed39.refl s, rfl⟩ trivial
  refine ⟨n, _, h1, h2, h3, hpost _ _ _ _ _ _ ⟨Cond.after_iff.mpr rfl, Cond.after_iff.mpr (eq_i res_at (Term.int_eval (1)) rfl), trivial⟩ ⟨hq.1, hq.2.1, (hq.2.2.sift fun y hy => Or.inr (N y hy)).mono (by decide) (by decide)⟩⟩
theorem main_1_1 : Claimed_1_1 := own_comes fun _ _ _ _ _ _ h hF => ⟨h.1, hF⟩
theorem main_1_2 : Claimed_1_2 := own_comes fun _ _ _ _ _ _ h hF => ⟨h.2.1, hF⟩
end Jvm.Pilot.@@N@@
namespace Jvm.Pilot.@@N@@
open Jvm Jvm.ClassFile Sem Op Lib Jvm.Free Jvm.Stand Jvm.Pilot.@@N@@.Jvm.D
/-! MADE BY PROGRAM (witnessworld.py) out of the Statement's table words and the real class files: 15 classes; the members and pool entries that the words name. The judged class is class 1, her method 1. -/
namespace start1
open Jvm.ClassFile
def u (s : String) : CpInfo := .utf8 (stringToUtf16 s)
/-- a pool by its gaps: so many unusable entries, then the entry; so many at the end -/
def gap : Nat → List CpInfo → List CpInfo
  | 0, r => r
  | n + 1, r => .unusable :: gap n r
def poolList (es : List (Nat × CpInfo)) (last : Nat) : List CpInfo := es.foldr (fun e r => gap e.1 (e.2 :: r)) (gap last [])
def pool (es : List (Nat × CpInfo)) (last : Nat) : Array CpInfo := ⟨poolList es last⟩
def fileOf (pool : Array CpInfo) (this : Nat) (attrs : Array Attribute := #[]) (ms : Array MethodInfo := #[]) (fl : Nat := 33) (sup : Nat := 0) (ifs : Array Nat := #[]) (fds : Array FieldInfo := #[]) : ClassFile where
  minorVersion := 0
  majorVersion := 65
  constantPool := pool
  accessFlags := fl
  thisClass := this
  superClass := sup
  interfaces := ifs
  fields := fds
  methods := ms
  attributes := attrs
def plain (name : String) (sup : Option ClassId) : Class where
  name := name
  kind := .ordinary
  loader := none
  accessFlags := 33
  super := sup
  interfaces := #[]
  cf := none
  fields := #[]
  methods := #[]
  instanceTypes := #[]
  staticTypes := #[]
  resolved := #[]
  callSites := []
  init := .initialized
  statics := none
  mirror := none

def pool0 : Array CpInfo := pool [(5, u "<init>"), (0, u "()V"), (1, .class_ 10), (1, u "java/lang/Object")] 113

def k0c0 : Code := { maxStack := 0, maxLocals := 1, code := object_method_1_code, exceptionTable := #[], attributes := #[] }
def k0m0 : Method := { name := "<init>", desc := "()V", sig := { parameters := [], returnType := none }, accessFlags := 1, code := some k0c0 }
/-- java/lang/Object -/
def k0 : Class := { plain "java/lang/Object" none with
  accessFlags := 33
  interfaces := #[]
  cf := some (fileOf pool0 8 #[] #[{ accessFlags := 1, nameIndex := 5, descriptorIndex := 6, attributes := #[] }] 33 0 #[] #[])
  fields := #[]
  methods := #[k0m0]
  instanceTypes := #[]
  staticTypes := #[]
  resolved := Array.replicate 124 none
  statics := none }

def pool1 : Array CpInfo := pool [(2, .class_ 4), (1, u "java/lang/Object"), (0, u "<init>"), (0, u "()V"), (0, .class_ 8), (0, u "com/example/tenderbook/tenderbook/core/Term"), (0, .methodref 7 10), (0, .nameAndType 5 11), (0, u "(I)V"), (0, .methodref 7 13), (0, .nameAndType 14 15), (0, u "compareTo"), (0, u "(Lcom/example/tenderbook/tenderbook/core/Term;)I"), (0, .class_ 17), (0, u "com/example/tenderbook/tenderbook/core/TermCompareToPinLaw"), (2, u "law"), (0, u "(II)Z")] 3

def k1m0 : Method := { name := "<init>", desc := "()V", sig := { parameters := [], returnType := none }, accessFlags := 1, code := none }
def k1c1 : Code := { maxStack := 3, maxLocals := 8, code := code, exceptionTable := #[], attributes := #[] }
def k1m1 : Method := { name := "law", desc := "(II)Z", sig := { parameters := [.int, .int], returnType := some .boolean }, accessFlags := 9, code := some k1c1 }
/-- com/example/tenderbook/tenderbook/core/TermCompareToPinLaw -/
def k1 : Class := { plain "com/example/tenderbook/tenderbook/core/TermCompareToPinLaw" (some 0) with
  accessFlags := 49
  interfaces := #[]
  cf := some (fileOf pool1 16 #[] #[{ accessFlags := 1, nameIndex := 5, descriptorIndex := 6, attributes := #[] }, { accessFlags := 9, nameIndex := 20, descriptorIndex := 21, attributes := #[] }] 49 2 #[] #[])
  fields := #[]
  methods := #[k1m0, k1m1]
  instanceTypes := #[]
  staticTypes := #[]
  resolved := Array.replicate 25 none
  statics := none }

def pool2 : Array CpInfo := pool [(1, .methodref 2 3), (0, .class_ 4), (0, .nameAndType 5 6), (0, u "java/lang/Object"), (0, u "<init>"), (0, u "()V"), (0, .class_ 8), (0, u "java/lang/Record")] 13

def k2c0 : Code := { maxStack := 1, maxLocals := 1, code := jdk_30_method_1_code, exceptionTable := #[], attributes := #[] }
def k2m0 : Method := { name := "<init>", desc := "()V", sig := { parameters := [], returnType := none }, accessFlags := 4, code := some k2c0 }
/-- java/lang/Record -/
def k2 : Class := { plain "java/lang/Record" (some 0) with
  accessFlags := 1057
  interfaces := #[]
  cf := some (fileOf pool2 7 #[] #[{ accessFlags := 4, nameIndex := 5, descriptorIndex := 6, attributes := #[] }] 1057 2 #[] #[])
  fields := #[]
  methods := #[k2m0]
  instanceTypes := #[]
  staticTypes := #[]
  resolved := Array.replicate 22 none
  statics := none }

def pool3 : Array CpInfo := pool [(1, .class_ 2), (0, u "java/lang/Comparable"), (0, .class_ 4), (0, u "java/lang/Object")] 7

/-- java/lang/Comparable -/
def k3 : Class := { plain "java/lang/Comparable" (some 0) with
  accessFlags := 1537
  interfaces := #[]
  cf := some (fileOf pool3 1 #[] #[] 1537 3 #[] #[])
  fields := #[]
  methods := #[]
  instanceTypes := #[]
  staticTypes := #[]
  resolved := Array.replicate 12 none
  statics := none }

def pool4 : Array CpInfo := pool [(1, .methodref 2 3), (0, .class_ 4), (0, .nameAndType 5 6), (0, u "java/lang/Record"), (0, u "<init>"), (0, u "()V"), (0, .fieldref 8 9), (0, .class_ 10), (0, .nameAndType 11 12), (0, u "com/example/tenderbook/tenderbook/core/Term"), (0, u "totalMonths"), (0, u "I"), (15, u "(I)V"), (24, u "WRITTEN"), (0, u "Ljava/util/regex/Pattern;"), (26, .class_ 83), (1, u "java/lang/Integer"), (2, .methodref 81 87), (0, .nameAndType 88 89), (0, u "compare"), (0, u "(II)I"), (19, u "compareTo"), (0, u "(Lcom/example/tenderbook/tenderbook/core/Term;)I"), (13, .class_ 125), (0, u "java/lang/Comparable"), (0, u "MONTHS_PER_YEAR")] 46

def k4c0 : Code := { maxStack := 2, maxLocals := 2, code := prog_56_method_1_code, exceptionTable := #[], attributes := #[] }
def k4m0 : Method := { name := "<init>", desc := "(I)V", sig := { parameters := [.int], returnType := none }, accessFlags := 1, code := some k4c0 }
def k4c1 : Code := { maxStack := 2, maxLocals := 2, code := prog_56_method_6_code, exceptionTable := #[], attributes := #[] }
def k4m1 : Method := { name := "compareTo", desc := "(Lcom/example/tenderbook/tenderbook/core/Term;)I", sig := { parameters := [(.object "com/example/tenderbook/tenderbook/core/Term")], returnType := some .int }, accessFlags := 1, code := some k4c1 }
/-- com/example/tenderbook/tenderbook/core/Term -/
def k4 : Class := { plain "com/example/tenderbook/tenderbook/core/Term" (some 2) with
  accessFlags := 49
  interfaces := #[3]
  cf := some (fileOf pool4 8 #[] #[{ accessFlags := 1, nameIndex := 5, descriptorIndex := 28, attributes := #[] }, { accessFlags := 1, nameIndex := 109, descriptorIndex := 110, attributes := #[] }] 49 2 #[124] #[{ accessFlags := 18, nameIndex := 11, descriptorIndex := 12, attributes := #[] }, { accessFlags := 26, nameIndex := 126, descriptorIndex := 12, attributes := #[] }, { accessFlags := 26, nameIndex := 53, descriptorIndex := 54, attributes := #[] }])
  fields := #[{ name := "totalMonths", type := .int, accessFlags := 18, slot := 0, constantValue := 0 }, { name := "MONTHS_PER_YEAR", type := .int, accessFlags := 26, slot := 0, constantValue := 0 }, { name := "WRITTEN", type := (.object "java/util/regex/Pattern"), accessFlags := 26, slot := 1, constantValue := 0 }]
  methods := #[k4m0, k4m1]
  instanceTypes := #[.int]
  staticTypes := #[.int, (.object "java/util/regex/Pattern")]
  resolved := Array.replicate 173 none
  statics := none }

def pool5 : Array CpInfo := pool [(1, .class_ 2), (0, u "java/io/Serializable"), (0, .class_ 4), (0, u "java/lang/Object")] 2

/-- java/io/Serializable -/
def k5 : Class := { plain "java/io/Serializable" (some 0) with
  accessFlags := 1537
  interfaces := #[]
  cf := some (fileOf pool5 1 #[] #[] 1537 3 #[] #[])
  fields := #[]
  methods := #[]
  instanceTypes := #[]
  staticTypes := #[]
  resolved := Array.replicate 7 none
  statics := none }

def pool6 : Array CpInfo := pool [(2, .class_ 4), (1, u "java/lang/Object"), (0, u "<init>"), (0, u "()V"), (1, .class_ 10), (1, u "java/lang/Number"), (2, .class_ 14), (0, u "java/io/Serializable"), (0, u "serialVersionUID"), (0, u "J")] 20

def k6m0 : Method := { name := "<init>", desc := "()V", sig := { parameters := [], returnType := none }, accessFlags := 1, code := none }
/-- java/lang/Number -/
def k6 : Class := { plain "java/lang/Number" (some 0) with
  accessFlags := 1057
  interfaces := #[5]
  cf := some (fileOf pool6 8 #[] #[{ accessFlags := 1, nameIndex := 5, descriptorIndex := 6, attributes := #[] }] 1057 2 #[13] #[{ accessFlags := 26, nameIndex := 15, descriptorIndex := 16, attributes := #[] }])
  fields := #[{ name := "serialVersionUID", type := .long, accessFlags := 26, slot := 0, constantValue := 0 }]
  methods := #[k6m0]
  instanceTypes := #[]
  staticTypes := #[.long]
  resolved := Array.replicate 37 none
  statics := none }

def pool7 : Array CpInfo := pool [(1, .class_ 2), (0, u "java/lang/constant/Constable"), (0, .class_ 4), (0, u "java/lang/Object")] 6

/-- java/lang/constant/Constable -/
def k7 : Class := { plain "java/lang/constant/Constable" (some 0) with
  accessFlags := 1537
  interfaces := #[]
  cf := some (fileOf pool7 1 #[] #[] 1537 3 #[] #[])
  fields := #[]
  methods := #[]
  instanceTypes := #[]
  staticTypes := #[]
  resolved := Array.replicate 11 none
  statics := none }

def pool8 : Array CpInfo := pool [(1, .class_ 2), (0, u "java/lang/constant/ConstantDesc"), (0, .class_ 4), (0, u "java/lang/Object")] 32

/-- java/lang/constant/ConstantDesc -/
def k8 : Class := { plain "java/lang/constant/ConstantDesc" (some 0) with
  accessFlags := 1537
  interfaces := #[]
  cf := some (fileOf pool8 1 #[] #[] 1537 3 #[] #[])
  fields := #[]
  methods := #[]
  instanceTypes := #[]
  staticTypes := #[]
  resolved := Array.replicate 37 none
  statics := none }

def pool9 : Array CpInfo := pool [(1, .class_ 2), (0, u "java/lang/Integer"), (16, u "digits"), (0, u "[C"), (39, u "(II)I"), (24, u "DigitOnes"), (0, u "[B"), (2, u "DigitTens"), (99, .class_ 190), (0, u "java/lang/Integer$IntegerCache"), (3, u "I"), (8, .class_ 204), (0, u "java/lang/Number"), (2, u "value"), (53, u "compare"), (40, u "TYPE"), (0, u "Ljava/lang/Class;"), (0, .class_ 305), (0, u "java/lang/Comparable"), (0, .class_ 307), (0, u "java/lang/constant/Constable"), (0, .class_ 309), (0, u "java/lang/constant/ConstantDesc"), (0, u "MIN_VALUE"), (1, u "MAX_VALUE"), (3, u "SIZE"), (1, u "BYTES"), (1, u "serialVersionUID"), (0, u "J")] 131

def k9c0 : Code := { maxStack := 2, maxLocals := 2, code := jdk_33_method_40_code, exceptionTable := #[], attributes := #[] }
def k9m0 : Method := { name := "compare", desc := "(II)I", sig := { parameters := [.int, .int], returnType := some .int }, accessFlags := 9, code := some k9c0 }
/-- java/lang/Integer -/
def k9 : Class := { plain "java/lang/Integer" (some 6) with
  accessFlags := 49
  interfaces := #[3, 7, 8]
  cf := some (fileOf pool9 1 #[.nestMembers #[189]] #[{ accessFlags := 9, nameIndex := 261, descriptorIndex := 60, attributes := #[] }] 49 203 #[304, 306, 308] #[{ accessFlags := 25, nameIndex := 310, descriptorIndex := 194, attributes := #[] }, { accessFlags := 25, nameIndex := 312, descriptorIndex := 194, attributes := #[] }, { accessFlags := 25, nameIndex := 302, descriptorIndex := 303, attributes := #[] }, { accessFlags := 24, nameIndex := 19, descriptorIndex := 20, attributes := #[] }, { accessFlags := 24, nameIndex := 89, descriptorIndex := 86, attributes := #[] }, { accessFlags := 24, nameIndex := 85, descriptorIndex := 86, attributes := #[] }, { accessFlags := 18, nameIndex := 207, descriptorIndex := 194, attributes := #[] }, { accessFlags := 25, nameIndex := 316, descriptorIndex := 194, attributes := #[] }, { accessFlags := 25, nameIndex := 318, descriptorIndex := 194, attributes := #[] }, { accessFlags := 26, nameIndex := 320, descriptorIndex := 321, attributes := #[] }])
  fields := #[{ name := "MIN_VALUE", type := .int, accessFlags := 25, slot := 0, constantValue := 0 }, { name := "MAX_VALUE", type := .int, accessFlags := 25, slot := 1, constantValue := 0 }, { name := "TYPE", type := (.object "java/lang/Class"), accessFlags := 25, slot := 2, constantValue := 0 }, { name := "digits", type := (.array .char), accessFlags := 24, slot := 3, constantValue := 0 }, { name := "DigitTens", type := (.array .byte), accessFlags := 24, slot := 4, constantValue := 0 }, { name := "DigitOnes", type := (.array .byte), accessFlags := 24, slot := 5, constantValue := 0 }, { name := "value", type := .int, accessFlags := 18, slot := 0, constantValue := 0 }, { name := "SIZE", type := .int, accessFlags := 25, slot := 6, constantValue := 0 }, { name := "BYTES", type := .int, accessFlags := 25, slot := 7, constantValue := 0 }, { name := "serialVersionUID", type := .long, accessFlags := 26, slot := 8, constantValue := 0 }]
  methods := #[k9m0]
  instanceTypes := #[.int]
  staticTypes := #[.int, .int, (.object "java/lang/Class"), (.array .char), (.array .byte), (.array .byte), .int, .int, .long]
  resolved := Array.replicate 453 none
  statics := none }

def pool10 : Array CpInfo := pool [(1, u "java/lang/Cloneable"), (0, .class_ 1), (0, u "java/lang/Object"), (0, .class_ 3)] 3

/-- java/lang/Cloneable -/
def k10 : Class := { plain "java/lang/Cloneable" (some 0) with
  accessFlags := 1537
  interfaces := #[]
  cf := some (fileOf pool10 2 #[] #[] 1537 4 #[] #[])
  fields := #[]
  methods := #[]
  instanceTypes := #[]
  staticTypes := #[]
  resolved := Array.replicate 8 none
  statics := none }

/-- the primitive byte -/
def k11 : Class := { plain "byte" none with kind := .primitive 'B', accessFlags := 0x411 }
/-- [B -/
def k12 : Class := { plain "[B" (some 0) with kind := .array 11 .byte, interfaces := #[10, 5], accessFlags := 1041 }

/-- the primitive int -/
def k13 : Class := { plain "int" none with kind := .primitive 'I', accessFlags := 0x411 }
/-- [I -/
def k14 : Class := { plain "[I" (some 0) with kind := .array 13 .int, interfaces := #[10, 5], accessFlags := 1041 }

def heap : Heap := #[]
def classes : Array Class := #[k0, k1, k2, k3, k4, k5, k6, k7, k8, k9, k10, k11, k12, k13, k14]
def interned : List (Array UInt16 × Addr) := []
def slotsUsed : Nat := 0
def theMethod : MethodId := ⟨1, 1⟩
def args0 : Array Value := #[.int 5, .int 5]
def aboutOver (below : List Frame) : State where
  vm := { classes := classes, interned := interned.toArray }
  heap := heap
  slotsUsed := slotsUsed
  threads := #[{ frames := .invoking theMethod args0 :: below }]
def below0 : List Frame := [.native { method := ⟨0, 0⟩, args := #[] }]
def about1 : State := aboutOver below0
def p0 : Program := .bare "" "" ""
def e0 : Env := launch0.env 0 0 0
theorem w_frames : about1.frames = Frame.invoking theMethod args0 :: below0 := rfl
set_option maxRecDepth 65536 in
theorem w_args : argsFit about1.vm theMethod args0 = true := by decide +kernel
set_option maxRecDepth 65536 in
theorem w_heap : heapFits about1 = true := by decide +kernel
set_option maxRecDepth 65536 in
theorem w_runnable : about1.curStatus? = some .runnable := by decide +kernel
set_option maxRecDepth 65536 in
theorem w_alone : about1.alone = true := by decide +kernel
set_option maxRecDepth 65536 in
theorem w_named : about1.methodNamed? x = some theMethod := by decide +kernel
set_option maxRecDepth 65536 in
theorem w_hears : about1.hears theMethod below0 = true := by decide +kernel
set_option maxRecDepth 65536 in
theorem w_ripe : about1.ripe theMethod args0 below0 = true := by decide +kernel
theorem w_running : about1.status = .running := rfl
set_option maxRecDepth 65536 in
theorem w_room : about1.hasRoom e0.platform room_1 = true :=
  launch0.hasRoom_least _ room_1 (by decide +kernel) (by decide +kernel) (by decide +kernel) (by decide +kernel) (by decide +kernel) (by decide +kernel)
theorem allAtoms_all (ts : List Jvm.Cond) (a : Array Jvm.Value) (st : Jvm.State) : (allAtoms ts).before a st = ts.all (fun c => c.before a st) := by
  induction ts with
  | nil => rfl
  | cons c t ih =>
    show (Jvm.Cond.and c (allAtoms t)).before a st = _
    rw [Jvm.Cond.before_and, ih, List.all_cons]
def words1 : List Jvm.Cond := Jvm.Cond.code x code maxLocals ret :: tables_1
/-- a 'code' word, met by the world's own term for the bytes: nothing is compared byte by byte -/
theorem code_word {y : MethodName} {bytes : ByteArray} {mx : Nat} {rt : Option FieldType} {a : Array Value} {s : State} {m : MethodId} {meth : Method} {c : Code} (h1 : s.methodNamed? y = some m) (h2 : s.vm.method? m = some meth) (h3 : meth.code = some c) (h4 : c.code = bytes)
    (h5 : (c.maxLocals == mx && c.exceptionTable.isEmpty && decide (c.maxStack ≤ mostOperands) && decide (meth.sig.returnType = rt) && !meth.locks && decide (parseMethodDescriptor y.desc = some meth.sig)) = true) : (Jvm.Cond.code y bytes mx rt).before a s = true := by
  simp only [Bool.and_eq_true, beq_iff_eq, Bool.not_eq_true', decide_eq_true_eq] at h5
  obtain ⟨⟨⟨⟨⟨g1, g2⟩, g3⟩, g4⟩, g5⟩, g6⟩ := h5
  simp [Cond.before, Cond.holds, Cond.value, h1, h2, h3, h4, g1, g2, g3, g4, g5, g6]
def isCode : Jvm.Cond → Bool
  | .code _ _ _ _ => true
  | _ => false
theorem all_split {L : List Jvm.Cond} {P : Jvm.Cond → Bool} (h1 : L.all (fun c => isCode c || P c) = true) (h2 : ∀ c ∈ L.filter isCode, P c = true) : L.all P = true := by
  refine List.all_eq_true.mpr fun c hc => ?_
  have h := List.all_eq_true.mp h1 c hc
  rcases Bool.eq_false_or_eq_true (isCode c) with hi | hi
  · exact h2 c (List.mem_filter.mpr ⟨hc, hi⟩)
  · simpa [hi] using h
set_option maxRecDepth 65536 in
theorem w_c0 : (Jvm.Cond.code x code maxLocals ret).before args0 about1 = true := code_word (m := ⟨1, 1⟩) (meth := k1m1) (c := k1c1) (by decide +kernel) rfl rfl rfl (by decide +kernel)
set_option maxRecDepth 65536 in
theorem w_c1 : (Jvm.Cond.code ({ cls := "com/example/tenderbook/tenderbook/core/Term", name := "<init>", desc := "(I)V" } : Jvm.MethodName) prog_56_method_1_code (2 : Nat) (Option.none : Option Jvm.ClassFile.FieldType)).before args0 about1 = true := code_word (m := ⟨4, 0⟩) (meth := k4m0) (c := k4c0) (by decide +kernel) rfl rfl rfl (by decide +kernel)
set_option maxRecDepth 65536 in
theorem w_c2 : (Jvm.Cond.code ({ cls := "java/lang/Record", name := "<init>", desc := "()V" } : Jvm.MethodName) jdk_30_method_1_code (1 : Nat) (Option.none : Option Jvm.ClassFile.FieldType)).before args0 about1 = true := code_word (m := ⟨2, 0⟩) (meth := k2m0) (c := k2c0) (by decide +kernel) rfl rfl rfl (by decide +kernel)
set_option maxRecDepth 65536 in
theorem w_c3 : (Jvm.Cond.code ({ cls := "java/lang/Object", name := "<init>", desc := "()V" } : Jvm.MethodName) object_method_1_code (1 : Nat) (Option.none : Option Jvm.ClassFile.FieldType)).before args0 about1 = true := code_word (m := ⟨0, 0⟩) (meth := k0m0) (c := k0c0) (by decide +kernel) rfl rfl rfl (by decide +kernel)
set_option maxRecDepth 65536 in
theorem w_c4 : (Jvm.Cond.code ({ cls := "com/example/tenderbook/tenderbook/core/Term", name := "compareTo", desc := "(Lcom/example/tenderbook/tenderbook/core/Term;)I" } : Jvm.MethodName) prog_56_method_6_code (2 : Nat) (Option.some Jvm.ClassFile.FieldType.int)).before args0 about1 = true := code_word (m := ⟨4, 1⟩) (meth := k4m1) (c := k4c1) (by decide +kernel) rfl rfl rfl (by decide +kernel)
set_option maxRecDepth 65536 in
theorem w_c5 : (Jvm.Cond.code ({ cls := "java/lang/Integer", name := "compare", desc := "(II)I" } : Jvm.MethodName) jdk_33_method_40_code (2 : Nat) (Option.some Jvm.ClassFile.FieldType.int)).before args0 about1 = true := code_word (m := ⟨9, 0⟩) (meth := k9m0) (c := k9c0) (by decide +kernel) rfl rfl rfl (by decide +kernel)
def codes1 : List Jvm.Cond := [Jvm.Cond.code x code maxLocals ret, Jvm.Cond.code ({ cls := "com/example/tenderbook/tenderbook/core/Term", name := "<init>", desc := "(I)V" } : Jvm.MethodName) prog_56_method_1_code (2 : Nat) (Option.none : Option Jvm.ClassFile.FieldType), Jvm.Cond.code ({ cls := "java/lang/Record", name := "<init>", desc := "()V" } : Jvm.MethodName) jdk_30_method_1_code (1 : Nat) (Option.none : Option Jvm.ClassFile.FieldType), Jvm.Cond.code ({ cls := "java/lang/Object", name := "<init>", desc := "()V" } : Jvm.MethodName) object_method_1_code (1 : Nat) (Option.none : Option Jvm.ClassFile.FieldType), Jvm.Cond.code ({ cls := "com/example/tenderbook/tenderbook/core/Term", name := "compareTo", desc := "(Lcom/example/tenderbook/tenderbook/core/Term;)I" } : Jvm.MethodName) prog_56_method_6_code (2 : Nat) (Option.some Jvm.ClassFile.FieldType.int), Jvm.Cond.code ({ cls := "java/lang/Integer", name := "compare", desc := "(II)I" } : Jvm.MethodName) jdk_33_method_40_code (2 : Nat) (Option.some Jvm.ClassFile.FieldType.int)]
set_option maxRecDepth 65536 in
theorem codes_eq : words1.filter isCode = codes1 := rfl
theorem w_codes : ∀ c ∈ words1.filter isCode, c.before args0 about1 = true := by
  rw [codes_eq]
  intro c hc
  simp only [codes1, List.mem_cons, List.not_mem_nil, or_false] at hc
  rcases hc with rfl | rfl | rfl | rfl | rfl | rfl
  · exact w_c0
  · exact w_c1
  · exact w_c2
  · exact w_c3
  · exact w_c4
  · exact w_c5
set_option maxRecDepth 65536 in
theorem w_t1 : (words1.take 24).all (fun c => isCode c || c.before args0 about1) = true := by decide +kernel
set_option maxRecDepth 65536 in
theorem w_t2 : (words1.drop 24).all (fun c => isCode c || c.before args0 about1) = true := by decide +kernel
theorem w_tables : (allAtoms (Jvm.Cond.code x code maxLocals ret :: tables_1)).before args0 about1 = true := by
  rw [allAtoms_all]
  show words1.all (fun c => c.before args0 about1) = true
  refine all_split ?_ w_codes
  rw [← List.take_append_drop 24 words1, List.all_append, w_t1, w_t2]
  rfl
set_option maxRecDepth 65536 in
theorem w_case : (Jvm.Cond.and given_1 narrow_1).before args0 about1 = true := by decide +kernel
theorem w_applies : (headSpec (Jvm.Cond.code x code maxLocals ret :: tables_1) room_1).applies x e0.platform about1 = true :=
  (Spec.applies_iff w_frames).mpr ⟨w_running, w_runnable, w_alone, w_named, w_hears, w_ripe, w_room, w_tables⟩
theorem atStart : AtStart classFile x code maxLocals ret World_1 tables_1 room_1 Calls_1 rest_1 Pre_1 launch0 p0 e0 about1 theMethod args0 below0 :=
  ⟨lists_1, trivial, launch0.admits_env _ _ _, launch0.least_env, fairChoices_fair.cas, fairChoices_fair.clock, w_frames, w_args, w_heap, w_applies, trivial, trivial, w_case⟩
end start1
theorem witness_1 : WitnessClaimed_1 := ⟨start1.p0, start1.e0, start1.about1, start1.theMethod, start1.args0, start1.below0, start1.atStart⟩
end Jvm.Pilot.@@N@@
