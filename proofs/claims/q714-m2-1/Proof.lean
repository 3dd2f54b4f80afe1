import JvmDerived
import JvmDerived.Pilot.@@N@@Statement
import JvmDerived.Pilot.@@N@@Code
set_option linter.unusedVariables false
set_option linter.unusedSimpArgs false
namespace Jvm.Pilot.@@N@@
open Jvm Jvm.ClassFile Sem Op Lib Jvm.Free Jvm.Stand Jvm.LawKit Jvm.RoadKit Bundle Jvm.Pilot.@@N@@.Jvm.D
section Own
variable {p : Program} {l : Launch} {e : Env} {R : Room} {s : State} {m : MethodId} {args : Array Value} {below : List Frame} {meth : Method} {c : Code} {T : State} {locs : List Loc} {cells slots : Nat}
/-- from U the run comes to an end of which Q holds -/
def OwnEnds (tb : Tables) (e : Env) (below : List Frame) (Q : Outcome → State → Prop) (U : State) : Prop :=
  ∃ s₂ o, Steps tb e below U s₂ ∧ s₂.status = .running ∧ Ended s₂ below o ∧ Q o s₂
abbrev OwnQ (s : State) (K N : Nat) (Q : Option Value → Heap → List Loc → Prop) : Outcome → State → Prop :=
  fun o U => ∃ v L, o = .returned v ∧ Q v U.heap L ∧ FrameEnd s o U L K N
theorem own_via {tb : Tables} {Q : Outcome → State → Prop} {U U' : State} (h : ∀ t, Steps tb e below U' t → Steps tb e below U t) (k : OwnEnds tb e below Q U') : OwnEnds tb e below Q U := by
  obtain ⟨s₂, o, h1, h2⟩ := k
  exact ⟨s₂, o, h _ h1, h2⟩
theorem own_of {tb : Tables} {Q : Outcome → State → Prop} {U U' : State} (h : Steps tb e below U U') (k : OwnEnds tb e below Q U') : OwnEnds tb e below Q U :=
  own_via (fun _ q => h.trans q) k
theorem own_wide {K N : Nat} (X : Stand p l e R s m args below meth c T locs cells slots) (h1 : cells ≤ K) (h2 : slots ≤ N) : Stand p l e R s m args below meth c T locs K N :=
  { X with same := X.same.mono h1 h2 }
theorem own_ret (X : Stand p l e R s m args below meth c T locs cells slots) {Q : Option Value → Heap → List Loc → Prop} {K N : Nat} {v : Option Value} (hv : meth.sig.returnType = none → v = none) (hlk : meth.locks = false) {f : JFrame}
    (st : ∀ fs, (∀ (f : JFrame) (acts : List Action), f.method = m → f.locked = none → f.entered = [] → (doReturn e (T.setTop f) acts v).1 = T.setFrames fs) → Steps p.tables e below (T.setTop f) (T.setFrames fs))
    (hQ : Q v T.heap locs) (hK : cells ≤ K) (hN : slots ≤ N) : OwnEnds p.tables e below (OwnQ s K N Q) (T.setTop f) := by
  obtain ⟨fs, hr, hrun, hended, hW, hsame⟩ := X.leave (v := v) hv hlk
  exact ⟨_, _, st fs hr, hrun, hended, _, _, rfl, hQ, ⟨_, rfl⟩, hW, hsame.mono hK hN⟩
theorem own_retI (X : Stand p l e R s m args below meth c T locs cells slots) (hx : p.tables.exec = Jvm.exec) {Q : Option Value → Heap → List Loc → Prop} {K N pc : Nat} {Ls : Array Slot} {z : Int32} {rest : List Value} (hret : meth.sig.returnType = some .int) (hlk : meth.locks = false) (hd : decode c.code pc = .ok (.ireturn, 1))
    (hQ : Q (some (.int z)) T.heap locs) (hK : cells ≤ K) (hN : slots ≤ N) : OwnEnds p.tables e below (OwnQ s K N Q) (T.setTop (mkF m pc Ls (.int z :: rest))) :=
  own_ret X (fun h => by rw [hret] at h; cases h) hlk (fun fs hl => retOut X hx hret rfl (Or.inl ⟨rfl, Or.inl rfl, z, rfl⟩) hd hl) hQ hK hN
theorem own_retN (X : Stand p l e R s m args below meth c T locs cells slots) (hx : p.tables.exec = Jvm.exec) {Q : Option Value → Heap → List Loc → Prop} {K N pc : Nat} {Ls : Array Slot} {z : Int32} {t : FieldType} {rest : List Value} (hret : meth.sig.returnType = some t) (ht : t = .boolean ∨ t = .byte ∨ t = .char ∨ t = .short) (hlk : meth.locks = false) (hd : decode c.code pc = .ok (.ireturn, 1))
    (hQ : Q (some (.int (nar t z))) T.heap locs) (hK : cells ≤ K) (hN : slots ≤ N) : OwnEnds p.tables e below (OwnQ s K N Q) (T.setTop (mkF m pc Ls (.int z :: rest))) :=
  own_ret X (fun h => by rw [hret] at h; cases h) hlk (fun fs hl => retN X hx hret ht hd hl) hQ hK hN
theorem own_retJ (X : Stand p l e R s m args below meth c T locs cells slots) (hx : p.tables.exec = Jvm.exec) {Q : Option Value → Heap → List Loc → Prop} {K N pc : Nat} {Ls : Array Slot} {z : Int64} {rest : List Value} (hret : meth.sig.returnType = some .long) (hlk : meth.locks = false) (hd : decode c.code pc = .ok (.lreturn, 1))
    (hQ : Q (some (.long z)) T.heap locs) (hK : cells ≤ K) (hN : slots ≤ N) : OwnEnds p.tables e below (OwnQ s K N Q) (T.setTop (mkF m pc Ls (.long z :: rest))) :=
  own_ret X (fun h => by rw [hret] at h; cases h) hlk (fun fs hl => retOut X hx hret rfl (Or.inr (Or.inl ⟨rfl, rfl, z, rfl⟩)) hd hl) hQ hK hN
theorem own_retA (X : Stand p l e R s m args below meth c T locs cells slots) (hx : p.tables.exec = Jvm.exec) {Q : Option Value → Heap → List Loc → Prop} {K N pc : Nat} {Ls : Array Slot} {w : Value} {t : FieldType} {rest : List Value} (hret : meth.sig.returnType = some t) (ht : t.isReference = true) (hw : w.isRef = true) (hlk : meth.locks = false) (hd : decode c.code pc = .ok (.areturn, 1))
    (hQ : Q (some w) T.heap locs) (hK : cells ≤ K) (hN : slots ≤ N) : OwnEnds p.tables e below (OwnQ s K N Q) (T.setTop (mkF m pc Ls (w :: rest))) :=
  own_ret X (fun h => by rw [hret] at h; cases h) hlk (fun fs hl => retOut X hx hret (by cases t <;> first | (cases ht; done) | (cases w <;> first | rfl | (cases hw; done))) (Or.inr (Or.inr (Or.inr (Or.inr ⟨rfl, ht, hw⟩)))) hd hl) hQ hK hN
theorem own_retV (X : Stand p l e R s m args below meth c T locs cells slots) (hx : p.tables.exec = Jvm.exec) {Q : Option Value → Heap → List Loc → Prop} {K N pc : Nat} {Ls : Array Slot} (hret : meth.sig.returnType = none) (hlk : meth.locks = false) (hd : decode c.code pc = .ok (.return_, 1))
    (hQ : Q none T.heap locs) (hK : cells ≤ K) (hN : slots ≤ N) : OwnEnds p.tables e below (OwnQ s K N Q) (T.setTop (mkF m pc Ls [])) :=
  own_ret X (fun _ => rfl) hlk (fun fs hl => X.returnOut hx hret hd hl) hQ hK hN
theorem own_lc_lt_t {x y : Int64} (h : x < y) : ifCond.holds .lt (lcmpW x y) = true ∧ ifCond.holds .ge (lcmpW x y) = false := by
  have q : lcmpW x y < 0 := by rw [lcW, lc_lt]; exact h
  exact ⟨(if0 _ _).trans (tlt q).1, (if0 _ _).trans (tlt q).2.1⟩
theorem own_lc_lt_f {x y : Int64} (h : ¬ (x < y)) : ifCond.holds .lt (lcmpW x y) = false ∧ ifCond.holds .ge (lcmpW x y) = true := by
  have q : ¬ lcmpW x y < 0 := by rw [lcW, lc_lt]; exact h
  exact ⟨(if0 _ _).trans (flt q).1, (if0 _ _).trans (flt q).2.1⟩
theorem own_lc_gt_t {x y : Int64} (h : y < x) : ifCond.holds .gt (lcmpW x y) = true ∧ ifCond.holds .le (lcmpW x y) = false := by
  have q : 0 < lcmpW x y := by rw [lcW, lc_gt]; exact h
  exact ⟨(if0 _ _).trans (tlt q).2.2.1, (if0 _ _).trans (tlt q).2.2.2⟩
theorem own_lc_gt_f {x y : Int64} (h : ¬ (y < x)) : ifCond.holds .gt (lcmpW x y) = false ∧ ifCond.holds .le (lcmpW x y) = true := by
  have q : ¬ 0 < lcmpW x y := by rw [lcW, lc_gt]; exact h
  exact ⟨(if0 _ _).trans (flt q).2.2.1, (if0 _ _).trans (flt q).2.2.2⟩
theorem own_lc_eq_t {x y : Int64} (h : x = y) : ifCond.holds .eq (lcmpW x y) = true ∧ ifCond.holds .ne (lcmpW x y) = false := by
  have q : lcmpW x y = 0 := by rw [lcW, lc_eq]; exact h
  exact ⟨(if0 _ _).trans (teq q).1, (if0 _ _).trans (teq q).2⟩
theorem own_lc_eq_f {x y : Int64} (h : ¬ (x = y)) : ifCond.holds .eq (lcmpW x y) = false ∧ ifCond.holds .ne (lcmpW x y) = true := by
  have q : ¬ lcmpW x y = 0 := by rw [lcW, lc_eq]; exact h
  exact ⟨(if0 _ _).trans (feq q).1, (if0 _ _).trans (feq q).2⟩
theorem own_lrem {g : JFrame} {target : State} (X : Stand p l e R s m args below meth c T locs cells slots) (hx : p.tables.exec = Jvm.exec) (hg : g.method = m) {x y : Int64} {rest : List Value} (hd : decode c.code g.pc = .ok (.lrem, 1)) (hs : g.stack = .long y :: .long x :: rest) (hy : y ≠ 0)
    (hr : Steps p.tables e below (T.setTop { g with pc := g.pc + 1, stack := .long (x % y) :: rest }) target) : Steps p.tables e below (T.setTop g) target := by
  have q : x - x / y * y = x % y := lrem_mod x y
  exact XS.lrem X.here hx hg hd hs hy (by rw [q]; exact hr)
theorem own_cat {w : Value} (h : w.isRef = true) : w.category = 1 := by rcases ref_cases h with rfl | ⟨a, rfl⟩ <;> rfl
theorem own_narR {w : Value} {t : FieldType} (ht : t.isReference = true) (h : w.isRef = true) : narrow t w = w := by
  cases t <;> first | (cases ht; done) | (rcases ref_cases h with rfl | ⟨a, rfl⟩ <;> rfl)
theorem own_fitR {w : Value} {t : FieldType} (ht : t.isReference = true) (h : w.isRef = true) : fits t w = true := by
  cases t <;> first | (cases ht; done) | (rcases ref_cases h with rfl | ⟨a, rfl⟩ <;> rfl)
theorem own_narb {c : Prop} [Decidable c] {r : Int32} (h : r = if c then 0 else 1) : nar .boolean r = r := by
  by_cases q : c
  · rw [if_pos q] at h; rw [h]; rfl
  · rw [if_neg q] at h; rw [h]; rfl
/-! arrays as lists of values -/
def AL (Z : State) (h : Heap) (a : Addr) (ty : FieldType) (xs : List Value) : Prop := ∃ c : Cell, Arr Z h a c ty ∧ c.slots.toList = xs ∧ xs.length < 2147483648
variable {Z : State} {h h' : Heap} {a b : Addr} {ty : FieldType} {xs : List Value} {sl : Nat} {v : Value} {ws : List Addr} {C n d : String}
theorem AL.lt (F : AL Z h a ty xs) : a < h.size := by obtain ⟨c, A, -⟩ := F; exact A.lt
theorem AL.ext (F : AL Z h a ty xs) (E : Ext h h') : AL Z h' a ty xs := by obtain ⟨c, A, r⟩ := F; exact ⟨c, A.ext E, r⟩
theorem AL.other (F : AL Z h a ty xs) (W : Wr h h' b sl v) (q : a ≠ b) : AL Z h' a ty xs := by obtain ⟨c, A, r⟩ := F; exact ⟨c, A.other W q, r⟩
theorem AL.keep (F : AL Z h a ty xs) (K : Keep h h' ws) (q : a ∉ ws) : AL Z h' a ty xs := by obtain ⟨c, A, r⟩ := F; exact ⟨c, ⟨K.2.1 a c A.1 q, A.2⟩, r⟩
theorem AL.new {k : ClassId} {z : Int32} (A : Arr Z h a (newA k ty z) ty) (q : ¬ z < 0) {i : Nat} (hi : z.toNatClampNeg = i) : AL Z h a ty (List.replicate i (defaultValue ty)) := by
  refine ⟨_, A, ?_, ?_⟩
  · simp [newA, hi]
  · rw [List.length_replicate, ← hi]; exact (back32 q).2
theorem AL.ne {C : String} (F : AL Z h a ty xs) (G : Exa Z h b C) {a0 : Array Value} {k : Nat} (wi : (Cond.instantiable C k).before a0 Z = true) : b ≠ a := by
  obtain ⟨c, A, -⟩ := F; exact ne_arr G wi A
theorem own_idx {cl : Cell} (hc : cl.slots.toList = xs) {j : Int32} {i : Nat} (hj : j.toInt = i) (hi : i < xs.length) : ¬ (j < 0 ∨ cl.slots.size ≤ j.toNatClampNeg) ∧ j.toNatClampNeg = i := by
  have h1 : j.toNatClampNeg = i := by simp only [Int32.toNatClampNeg, hj]; rfl
  have h2 : cl.slots.size = xs.length := by rw [← hc]; simp
  refine ⟨fun q => ?_, h1⟩
  rcases q with q | q
  · rw [Int32.lt_iff_toInt_lt, hj] at q; have e0 : (0 : Int32).toInt = 0 := rfl; omega
  · omega
theorem own_at {cl : Cell} (hc : cl.slots.toList = xs) {i : Nat} : cl.slots[i]? = xs[i]? := by rw [← hc]; simp
theorem AL.set {cl : Cell} (A : Arr Z h a cl ty) (hc : cl.slots.toList = xs) (hl : xs.length < 2147483648) {i : Nat} (W : Wr h h' a i v) : AL Z h' a ty (xs.set i v) := by
  refine ⟨_, A.same W, ?_, by simpa using hl⟩
  simp [Cell.setSlot, hc]
theorem own_stI (X : Stand p l e R s m args below meth c T locs cells slots) (hx : p.tables.exec = Jvm.exec) (hZ : Z.Warmed39 s.vm) (eT : T.heap = h) (A : AL Z h a .int xs) {j x : Int32} (i : Nat) (hj : j.toInt = i) (hi : i < xs.length) {g : JFrame} (hg : g.method = m) {rest : List Value} (hs : g.stack = .int x :: .int j :: .ref a :: rest) (hd : decode c.code g.pc = .ok (.iastore, 1)) :
    ∃ T' h', Stand p l e R s m args below meth c T' (locs ++ [⟨a, i⟩]) cells slots ∧ T'.heap = h' ∧ Wr h h' a i (.int x) ∧ AL Z h' a .int (xs.set i (.int x)) ∧ ∀ target, Steps p.tables e below (T'.setTop { g with pc := g.pc + 1, stack := rest }) target → Steps p.tables e below (T.setTop g) target := by
  obtain ⟨cl, A1, A2, A3⟩ := A
  obtain ⟨q1, q2⟩ := own_idx A2 hj hi
  obtain ⟨T', h', X', e', W, st⟩ := stI X hx hZ eT A1 q1 hg hs hd
  rw [q2] at X' W
  exact ⟨T', h', X', e', W, AL.set A1 A2 A3 W, st⟩
theorem own_stJ (X : Stand p l e R s m args below meth c T locs cells slots) (hx : p.tables.exec = Jvm.exec) (hZ : Z.Warmed39 s.vm) (eT : T.heap = h) (A : AL Z h a .long xs) {j : Int32} {x : Int64} (i : Nat) (hj : j.toInt = i) (hi : i < xs.length) {g : JFrame} (hg : g.method = m) {rest : List Value} (hs : g.stack = .long x :: .int j :: .ref a :: rest) (hd : decode c.code g.pc = .ok (.lastore, 1)) :
    ∃ T' h', Stand p l e R s m args below meth c T' (locs ++ [⟨a, i⟩]) cells slots ∧ T'.heap = h' ∧ Wr h h' a i (.long x) ∧ AL Z h' a .long (xs.set i (.long x)) ∧ ∀ target, Steps p.tables e below (T'.setTop { g with pc := g.pc + 1, stack := rest }) target → Steps p.tables e below (T.setTop g) target := by
  obtain ⟨cl, A1, A2, A3⟩ := A
  obtain ⟨q1, q2⟩ := own_idx A2 hj hi
  obtain ⟨T', h', X', e', W, st⟩ := stJ X hx hZ eT A1 q1 hg hs hd
  rw [q2] at X' W
  exact ⟨T', h', X', e', W, AL.set A1 A2 A3 W, st⟩
theorem own_stB (X : Stand p l e R s m args below meth c T locs cells slots) (hx : p.tables.exec = Jvm.exec) (hZ : Z.Warmed39 s.vm) (eT : T.heap = h) (A : AL Z h a .byte xs) {j x : Int32} (i : Nat) (hj : j.toInt = i) (hi : i < xs.length) {g : JFrame} (hg : g.method = m) {rest : List Value} (hs : g.stack = .int x :: .int j :: .ref a :: rest) (hd : decode c.code g.pc = .ok (.bastore, 1)) :
    ∃ T' h', Stand p l e R s m args below meth c T' (locs ++ [⟨a, i⟩]) cells slots ∧ T'.heap = h' ∧ Wr h h' a i (.int (nar .byte x)) ∧ AL Z h' a .byte (xs.set i (.int (nar .byte x))) ∧ ∀ target, Steps p.tables e below (T'.setTop { g with pc := g.pc + 1, stack := rest }) target → Steps p.tables e below (T.setTop g) target := by
  obtain ⟨cl, A1, A2, A3⟩ := A
  obtain ⟨q1, q2⟩ := own_idx A2 hj hi
  obtain ⟨T', h', X', e', W, st⟩ := stB X hx hZ eT A1 q1 hg hs hd
  rw [q2] at X' W
  exact ⟨T', h', X', e', W, AL.set A1 A2 A3 W, st⟩
theorem own_stZ (X : Stand p l e R s m args below meth c T locs cells slots) (hx : p.tables.exec = Jvm.exec) (hZ : Z.Warmed39 s.vm) (eT : T.heap = h) (A : AL Z h a .boolean xs) {j x : Int32} (i : Nat) (hj : j.toInt = i) (hi : i < xs.length) {g : JFrame} (hg : g.method = m) {rest : List Value} (hs : g.stack = .int x :: .int j :: .ref a :: rest) (hd : decode c.code g.pc = .ok (.bastore, 1)) :
    ∃ T' h', Stand p l e R s m args below meth c T' (locs ++ [⟨a, i⟩]) cells slots ∧ T'.heap = h' ∧ Wr h h' a i (.int (nar .boolean x)) ∧ AL Z h' a .boolean (xs.set i (.int (nar .boolean x))) ∧ ∀ target, Steps p.tables e below (T'.setTop { g with pc := g.pc + 1, stack := rest }) target → Steps p.tables e below (T.setTop g) target := by
  obtain ⟨cl, A1, A2, A3⟩ := A
  obtain ⟨q1, q2⟩ := own_idx A2 hj hi
  obtain ⟨T', h', X', e', W, st⟩ := stZ X hx hZ eT A1 q1 hg hs hd
  rw [q2] at X' W
  exact ⟨T', h', X', e', W, AL.set A1 A2 A3 W, st⟩
theorem own_stC (X : Stand p l e R s m args below meth c T locs cells slots) (hx : p.tables.exec = Jvm.exec) (hZ : Z.Warmed39 s.vm) (eT : T.heap = h) (A : AL Z h a .char xs) {j x : Int32} (i : Nat) (hj : j.toInt = i) (hi : i < xs.length) {g : JFrame} (hg : g.method = m) {rest : List Value} (hs : g.stack = .int x :: .int j :: .ref a :: rest) (hd : decode c.code g.pc = .ok (.castore, 1)) :
    ∃ T' h', Stand p l e R s m args below meth c T' (locs ++ [⟨a, i⟩]) cells slots ∧ T'.heap = h' ∧ Wr h h' a i (.int (nar .char x)) ∧ AL Z h' a .char (xs.set i (.int (nar .char x))) ∧ ∀ target, Steps p.tables e below (T'.setTop { g with pc := g.pc + 1, stack := rest }) target → Steps p.tables e below (T.setTop g) target := by
  obtain ⟨cl, A1, A2, A3⟩ := A
  obtain ⟨q1, q2⟩ := own_idx A2 hj hi
  obtain ⟨T', h', X', e', W, st⟩ := stC X hx hZ eT A1 q1 hg hs hd
  rw [q2] at X' W
  exact ⟨T', h', X', e', W, AL.set A1 A2 A3 W, st⟩
theorem own_lt_len {i : Nat} (hv : xs[i]? = some v) : i < xs.length := (List.getElem?_eq_some_iff.mp hv).1
theorem own_ldI (X : Stand p l e R s m args below meth c T locs cells slots) (hx : p.tables.exec = Jvm.exec) (hZ : Z.Warmed39 s.vm) (eT : T.heap = h) (A : AL Z h a .int xs) {j : Int32} (i : Nat) (hj : j.toInt = i) (hv : xs[i]? = some v) {g : JFrame} (hg : g.method = m) {rest : List Value} (hs : g.stack = .int j :: .ref a :: rest) (hd : decode c.code g.pc = .ok (.iaload, 1)) :
    ∀ target, Steps p.tables e below (T.setTop { g with pc := g.pc + 1, stack := v :: rest }) target → Steps p.tables e below (T.setTop g) target := by
  obtain ⟨cl, A1, A2, A3⟩ := A
  obtain ⟨q1, q2⟩ := own_idx A2 hj (own_lt_len hv)
  exact X.iaload hx (by rw [eT]; exact A1.1) (State.isArrayOf_alike hZ.alike A1.2.1) A1.2.2 q1 (by rw [q2, own_at A2]; exact hv) hg hs hd
theorem own_ldJ (X : Stand p l e R s m args below meth c T locs cells slots) (hx : p.tables.exec = Jvm.exec) (hZ : Z.Warmed39 s.vm) (eT : T.heap = h) (A : AL Z h a .long xs) {j : Int32} (i : Nat) (hj : j.toInt = i) (hv : xs[i]? = some v) {g : JFrame} (hg : g.method = m) {rest : List Value} (hs : g.stack = .int j :: .ref a :: rest) (hd : decode c.code g.pc = .ok (.laload, 1)) :
    ∀ target, Steps p.tables e below (T.setTop { g with pc := g.pc + 1, stack := v :: rest }) target → Steps p.tables e below (T.setTop g) target := by
  obtain ⟨cl, A1, A2, A3⟩ := A
  obtain ⟨q1, q2⟩ := own_idx A2 hj (own_lt_len hv)
  exact X.laload hx (by rw [eT]; exact A1.1) (State.isArrayOf_alike hZ.alike A1.2.1) A1.2.2 q1 (by rw [q2, own_at A2]; exact hv) hg hs hd
theorem own_ldB (X : Stand p l e R s m args below meth c T locs cells slots) (hx : p.tables.exec = Jvm.exec) (hZ : Z.Warmed39 s.vm) (eT : T.heap = h) (A : AL Z h a .byte xs) {j : Int32} (i : Nat) (hj : j.toInt = i) (hv : xs[i]? = some v) {g : JFrame} (hg : g.method = m) {rest : List Value} (hs : g.stack = .int j :: .ref a :: rest) (hd : decode c.code g.pc = .ok (.baload, 1)) :
    ∀ target, Steps p.tables e below (T.setTop { g with pc := g.pc + 1, stack := v :: rest }) target → Steps p.tables e below (T.setTop g) target := by
  obtain ⟨cl, A1, A2, A3⟩ := A
  obtain ⟨q1, q2⟩ := own_idx A2 hj (own_lt_len hv)
  exact X.baloadBytes hx (by rw [eT]; exact A1.1) (State.isArrayOf_alike hZ.alike A1.2.1) A1.2.2 q1 (by rw [q2, own_at A2]; exact hv) hg hs hd
theorem own_ldZ (X : Stand p l e R s m args below meth c T locs cells slots) (hx : p.tables.exec = Jvm.exec) (hZ : Z.Warmed39 s.vm) (eT : T.heap = h) (A : AL Z h a .boolean xs) {j : Int32} (i : Nat) (hj : j.toInt = i) (hv : xs[i]? = some v) {g : JFrame} (hg : g.method = m) {rest : List Value} (hs : g.stack = .int j :: .ref a :: rest) (hd : decode c.code g.pc = .ok (.baload, 1)) :
    ∀ target, Steps p.tables e below (T.setTop { g with pc := g.pc + 1, stack := v :: rest }) target → Steps p.tables e below (T.setTop g) target := by
  obtain ⟨cl, A1, A2, A3⟩ := A
  obtain ⟨q1, q2⟩ := own_idx A2 hj (own_lt_len hv)
  exact X.baloadBooleans hx (by rw [eT]; exact A1.1) (State.isArrayOf_alike hZ.alike A1.2.1) A1.2.2 q1 (by rw [q2, own_at A2]; exact hv) hg hs hd
theorem own_ldC (X : Stand p l e R s m args below meth c T locs cells slots) (hx : p.tables.exec = Jvm.exec) (hZ : Z.Warmed39 s.vm) (eT : T.heap = h) (A : AL Z h a .char xs) {j : Int32} (i : Nat) (hj : j.toInt = i) (hv : xs[i]? = some v) {g : JFrame} (hg : g.method = m) {rest : List Value} (hs : g.stack = .int j :: .ref a :: rest) (hd : decode c.code g.pc = .ok (.caload, 1)) :
    ∀ target, Steps p.tables e below (T.setTop { g with pc := g.pc + 1, stack := v :: rest }) target → Steps p.tables e below (T.setTop g) target := by
  obtain ⟨cl, A1, A2, A3⟩ := A
  obtain ⟨q1, q2⟩ := own_idx A2 hj (own_lt_len hv)
  exact X.caload hx (by rw [eT]; exact A1.1) (State.isArrayOf_alike hZ.alike A1.2.1) A1.2.2 q1 (by rw [q2, own_at A2]; exact hv) hg hs hd
theorem own_ldA (X : Stand p l e R s m args below meth c T locs cells slots) (hx : p.tables.exec = Jvm.exec) (hZ : Z.Warmed39 s.vm) (eT : T.heap = h) (A : AL Z h a ty xs) (hty : ty.isReference = true) {j : Int32} (i : Nat) (hj : j.toInt = i) (hv : xs[i]? = some v) {g : JFrame} (hg : g.method = m) {rest : List Value} (hs : g.stack = .int j :: .ref a :: rest) (hd : decode c.code g.pc = .ok (.aaload, 1)) :
    ∀ target, Steps p.tables e below (T.setTop { g with pc := g.pc + 1, stack := v :: rest }) target → Steps p.tables e below (T.setTop g) target := by
  obtain ⟨cl, A1, A2, A3⟩ := A
  obtain ⟨q1, q2⟩ := own_idx A2 hj (own_lt_len hv)
  exact X.aaload hx (by rw [eT]; exact A1.1) (State.isArrayOf_alike hZ.alike A1.2.1) hty A1.2.2 q1 (by rw [q2, own_at A2]; exact hv) hg hs hd
theorem own_len (X : Stand p l e R s m args below meth c T locs cells slots) (hx : p.tables.exec = Jvm.exec) (hZ : Z.Warmed39 s.vm) (eT : T.heap = h) (A : AL Z h a ty xs) {z : Int32} (hz : z.toInt = xs.length) {g : JFrame} (hg : g.method = m) {rest : List Value} (hs : g.stack = .ref a :: rest) (hd : decode c.code g.pc = .ok (.arraylength, 1)) :
    ∀ target, Steps p.tables e below (T.setTop { g with pc := g.pc + 1, stack := .int z :: rest }) target → Steps p.tables e below (T.setTop g) target := by
  obtain ⟨cl, A1, A2, A3⟩ := A
  have h2 : cl.slots.size = xs.length := by rw [← A2]; simp
  have e1 : cl.slots.size.toInt32 = z := Int32.toInt_inj.mp (by rw [len_toInt (by omega), hz, h2])
  intro target k
  exact X.arraylength hx (by rw [eT]; exact A1.1) (State.isArrayOf_alike hZ.alike A1.2.1) hg hs hd target (by rw [e1]; exact k)
theorem AL.ofArv {k : ClassId} {z : Int32} {dv : Value} (F : Arv Z h a k ty z xs dv) (hl : z.toNatClampNeg = xs.length) : AL Z h a ty xs := by
  obtain ⟨cl, A, -, S, q, H, -⟩ := F
  have hs : cl.slots.size = xs.length := S.trans hl
  refine ⟨cl, A, ?_, by rw [← hl]; exact (back32 q).2⟩
  apply List.ext_getElem?
  intro j
  rw [← own_at (xs := cl.slots.toList) rfl]
  by_cases hj : j < xs.length
  · rw [H j (by omega)]; simp [hj]
  · rw [Array.getElem?_eq_none (by omega), List.getElem?_eq_none (by omega)]
/-! walks that load a String constant -/
abbrev OwnQW (s : State) (K N : Nat) (Q : Option Value → Heap → List Loc → Prop) : Outcome → State → Prop :=
  fun o U => ∃ v L, o = .returned v ∧ Q v U.heap L ∧ ReturnedEndW s o U L K N
theorem own_retWN {vm₁ : Vm} (X : Stand p l e R (s.setVm vm₁) m args below meth c T locs cells slots) (hx : p.tables.exec = Jvm.exec) {i : Nat} (hS : s.Since vm₁ i) (hi : i ≤ T.heap.size) {Q : Option Value → Heap → List Loc → Prop} {K N pc : Nat} {Ls : Array Slot} {z : Int32} {t : FieldType} {rest : List Value} (hret : meth.sig.returnType = some t) (ht : t = .boolean ∨ t = .byte ∨ t = .char ∨ t = .short) (hlk : meth.locks = false) (hd : decode c.code pc = .ok (.ireturn, 1))
    (hQ : Q (some (.int (nar t z))) T.heap locs) (hK : cells ≤ K) (hN : slots ≤ N) : OwnEnds p.tables e below (OwnQW s K N Q) (T.setTop (mkF m pc Ls (.int z :: rest))) := by
  obtain ⟨fs, hr, hrun, hended, h1, h2, h3, h4⟩ := X.leaveW hS hi (v := some (.int (nar t z))) (fun h => by rw [hret] at h; cases h) hlk
  exact ⟨_, _, retN X hx hret ht hd hr, hrun, hended, _, _, rfl, hQ, h1, h2, h3, h4.mono hK hN⟩
end Own

def own_c8 (x : Int32) : Int32 := nar .char (x &&& 255).toUInt32.toUInt16.toUInt32.toInt32
theorem d3_0 : decode jdk_42_method_154_code 0 = .ok (.getstatic 38, 3) := by decide +kernel
theorem d3_3 : decode jdk_42_method_154_code 3 = .ok (.ifCond .eq 14, 3) := by decide +kernel
theorem d3_6 : decode jdk_42_method_154_code 6 = .ok (.aload_n 0, 1) := by decide +kernel
theorem d3_7 : decode jdk_42_method_154_code 7 = .ok (.getfield 15, 3) := by decide +kernel
theorem d3_10 : decode jdk_42_method_154_code 10 = .ok (.ifCond .ne 7, 3) := by decide +kernel
theorem d3_13 : decode jdk_42_method_154_code 13 = .ok (.iconst 1, 1) := by decide +kernel
theorem d3_14 : decode jdk_42_method_154_code 14 = .ok (.goto 4, 3) := by decide +kernel
theorem d3_17 : decode jdk_42_method_154_code 17 = .ok (.iconst 0, 1) := by decide +kernel
theorem d3_18 : decode jdk_42_method_154_code 18 = .ok (.ireturn, 1) := by decide +kernel
theorem pn_0 : plainName "java/lang/String" = true := by first | (simp [plainName, overriddenIn]; done) | decide +kernel
theorem ef_3 (m : MethodId) (a0 : Addr) : entryFrame m #[(.ref a0)] 1 = mkF m 0 #[.val (.ref a0)] [] := by first | (simp [entryFrame, mkF, argsToLocals, Value.category]; done) | rfl
def Q3 (Z : State) (a0 : Addr) (cs : Int32) (h0 : Heap) (n0 : Nat) (v : Option Value) (h : Heap) (L : List Loc) : Prop := v = some (.int 1) ∧ Fr n0 L ∧ h = h0
set_option maxRecDepth 65536 in
set_option maxHeartbeats 40000000 in
theorem rm3 (l : Launch) (Z : State) (aw : Array Value) (hw : ∀ d ∈ tables_1, d.before aw Z = true) (ws : List Jvm.Cond) (a0 : Addr) (cs : Int32) (h0 : Heap) (n0 : Nat) (Z0 : n0 ≤ h0.size) (E_a0 : Exa Z h0 a0 "java/lang/String") (F_coder_a0 : Fld Z h0 a0 "java/lang/String" "coder" "B" (.int (0 : Int32))) (S_cs : Sta Z Z.heap "java/lang/String" "COMPACT_STRINGS" "Z" (.int cs)) (hcs : ¬ cs = 0) (O0 : Old Z n0 h0) :
    MetFree l (⟨"java/lang/String", "isLatin1", "()Z"⟩ : MethodName) (head1 (Jvm.Cond.code (⟨"java/lang/String", "isLatin1", "()Z"⟩ : MethodName) jdk_42_method_154_code 1 (some .boolean) :: ws) ({ frames := 0, cells := 0, slots := 0, locals := 0 } : Room)) (fun a U => a = #[(.ref a0)] ∧ Z.Warmed39 U.vm ∧ U.heap = h0) (fun _ _ _ _ _ => True) (fun _ U o U' => ∃ v L, o = .returned v ∧ Q3 Z a0 cs h0 n0 v U'.heap L ∧ FrameEnd U o U' L ({ frames := 0, cells := 0, slots := 0, locals := 0 } : Room).cells ({ frames := 0, cells := 0, slots := 0, locals := 0 } : Room).slots) := by
  refine MetFree.of_bodySF (plainFor_of_name pn_0) hisR ?_
  intro p e s m args below meth c s₁ Bd hml0 hP hK
  obtain ⟨rfl, hZ, hh⟩ := hP
  have hx := Bd.exec
  have hby := Bd.bytes
  have hml : c.maxLocals = 1 := hml0
  have hown : s.vm.findClass "java/lang/String" = some m.cls := findClass_of_methodNamed Bd.named
  have hnm := (name_of_methodNamed Bd.named Bd.method).1
  have hlk : meth.locks = false := Bd.notSynchronized
  have X0 : Stand p l e ({ frames := 0, cells := 0, slots := 0, locals := 0 } : Room) s m #[(.ref a0)] below meth c s₁ [] 0 0 := Stand.of_body Bd
  have e0 : s₁.heap = h0 := by rw [← hh, Bd.state]; rfl
  have N0 := Fr.nil n0
  show OwnEnds p.tables e below (OwnQ s ({ frames := 0, cells := 0, slots := 0, locals := 0 } : Room).cells ({ frames := 0, cells := 0, slots := 0, locals := 0 } : Room).slots (Q3 Z a0 cs h0 n0)) (s₁.setTop (entryFrame m #[(.ref a0)] 1))
  refine own_via (fun t k => castTop (ef_3 m a0) k) ?_
  show OwnEnds p.tables e below _ (s₁.setTop (mkF m 0 #[.val (.ref a0)] []))
  obtain ⟨T1, X1, e1, st1⟩ := getS2 X0 hx hZ hown (host := "") (Or.inl (hw _ (List.mem_of_getElem? (i := 22) rfl))) Via.refl e0 (S_cs.ext O0.2) (g := (mkF m 0 #[.val (.ref a0)] [])) rfl (hb hby d3_0)
  refine own_via st1 ?_
  show OwnEnds p.tables e below _ (T1.setTop (mkF m 3 #[.val (.ref a0)] [(.int cs)]))
  have hc3_2 : ¬ (cs = (0 : Int32)) := hcs
  refine own_via (fun t k => XS.ifNo X1.here hx rfl (hb hby d3_3) rfl ((if0 _ _).trans (feq hc3_2).1) k) ?_
  show OwnEnds p.tables e below _ (T1.setTop (mkF m 6 #[.val (.ref a0)] []))
  refine own_via (fun t k => XS.aloadN X1.here hx rfl (hb hby d3_6) rfl rfl k) ?_
  show OwnEnds p.tables e below _ (T1.setTop (mkF m 7 #[.val (.ref a0)] [(.ref a0)]))
  obtain ⟨T3, X3, e3, st3⟩ := getF X1 hx hZ hown (host := "") (Or.inl (hw _ (List.mem_of_getElem? (i := 23) rfl))) Via.refl e1 F_coder_a0 (g := (mkF m 7 #[.val (.ref a0)] [(.ref a0)])) rfl rfl (hb hby d3_7)
  refine own_via st3 ?_
  show OwnEnds p.tables e below _ (T3.setTop (mkF m 10 #[.val (.ref a0)] [(.int (0 : Int32))]))
  have hc10_4 : (0 : Int32) = (0 : Int32) := by decide
  refine own_via (fun t k => XS.ifNo X3.here hx rfl (hb hby d3_10) rfl ((if0 _ _).trans (teq hc10_4).2) k) ?_
  show OwnEnds p.tables e below _ (T3.setTop (mkF m 13 #[.val (.ref a0)] []))
  refine own_via (fun t k => XS.iconst X3.here hx rfl (hb hby d3_13) k) ?_
  show OwnEnds p.tables e below _ (T3.setTop (mkF m 14 #[.val (.ref a0)] [(.int (1 : Int32))]))
  refine own_via (fun t k => XS.goto X3.here hx rfl (pc0 := 14) (pc' := 18) rfl (hb hby d3_14) (by decide) (by decide) k) ?_
  show OwnEnds p.tables e below _ (T3.setTop (mkF m 18 #[.val (.ref a0)] [(.int (1 : Int32))]))
  refine own_retN (t := .boolean) X3 hx Bd.returns (by simp) hlk (hb hby d3_18) ?_ (by decide) (by decide)
  rw [e3]
  exact ⟨rfl, N0, rfl⟩
theorem d6_0 : decode jdk_41_method_11_code 0 = .ok (.iload_n 0, 1) := by decide +kernel
theorem d6_1 : decode jdk_41_method_11_code 1 = .ok (.ifCond .lt 8, 3) := by decide +kernel
theorem d6_4 : decode jdk_41_method_11_code 4 = .ok (.iload_n 0, 1) := by decide +kernel
theorem d6_5 : decode jdk_41_method_11_code 5 = .ok (.iload_n 1, 1) := by decide +kernel
theorem d6_6 : decode jdk_41_method_11_code 6 = .ok (.if_icmp .lt 10, 3) := by decide +kernel
theorem d6_9 : decode jdk_41_method_11_code 9 = .ok (.aload_n 2, 1) := by decide +kernel
theorem d6_10 : decode jdk_41_method_11_code 10 = .ok (.iload_n 0, 1) := by decide +kernel
theorem d6_11 : decode jdk_41_method_11_code 11 = .ok (.iload_n 1, 1) := by decide +kernel
theorem d6_12 : decode jdk_41_method_11_code 12 = .ok (.invokestatic 95, 3) := by decide +kernel
theorem d6_15 : decode jdk_41_method_11_code 15 = .ok (.athrow, 1) := by decide +kernel
theorem d6_16 : decode jdk_41_method_11_code 16 = .ok (.iload_n 0, 1) := by decide +kernel
theorem d6_17 : decode jdk_41_method_11_code 17 = .ok (.ireturn, 1) := by decide +kernel
theorem pn_1 : plainName "jdk/internal/util/Preconditions" = true := by first | (simp [plainName, overriddenIn]; done) | decide +kernel
theorem ef_6 (m : MethodId) (p0 : Int32) (p1 : Int32) (w2 : Value) (hr_w2 : w2.isRef = true) : entryFrame m #[(.int p0), (.int p1), w2] 3 = mkF m 0 #[.val (.int p0), .val (.int p1), .val w2] [] := by
  rcases ref_cases hr_w2 with rfl | ⟨w2', rfl⟩ <;> first | (simp [entryFrame, mkF, argsToLocals, Value.category]; done) | rfl
def Q6 (Z : State) (p0 : Int32) (p1 : Int32) (w2 : Value) (h0 : Heap) (n0 : Nat) (v : Option Value) (h : Heap) (L : List Loc) : Prop := v = some (.int p0) ∧ Fr n0 L ∧ h = h0
set_option maxRecDepth 65536 in
set_option maxHeartbeats 40000000 in
theorem rm6 (l : Launch) (Z : State) (aw : Array Value) (hw : ∀ d ∈ tables_1, d.before aw Z = true) (ws : List Jvm.Cond) (p0 : Int32) (p1 : Int32) (w2 : Value) (h0 : Heap) (n0 : Nat) (Z0 : n0 ≤ h0.size) (hr_w2 : w2.isRef = true) (hi0 : ¬ p0 < 0) (hi1 : p0 < p1) :
    MetFree l (⟨"jdk/internal/util/Preconditions", "checkIndex", "(IILjava/util/function/BiFunction;)I"⟩ : MethodName) (head1 (Jvm.Cond.code (⟨"jdk/internal/util/Preconditions", "checkIndex", "(IILjava/util/function/BiFunction;)I"⟩ : MethodName) jdk_41_method_11_code 3 (some .int) :: ws) ({ frames := 0, cells := 0, slots := 0, locals := 0 } : Room)) (fun a U => a = #[(.int p0), (.int p1), w2] ∧ Z.Warmed39 U.vm ∧ U.heap = h0) (fun _ _ _ _ _ => True) (fun _ U o U' => ∃ v L, o = .returned v ∧ Q6 Z p0 p1 w2 h0 n0 v U'.heap L ∧ FrameEnd U o U' L ({ frames := 0, cells := 0, slots := 0, locals := 0 } : Room).cells ({ frames := 0, cells := 0, slots := 0, locals := 0 } : Room).slots) := by
  refine MetFree.of_bodySF (plainFor_of_name pn_1) hisR ?_
  intro p e s m args below meth c s₁ Bd hml0 hP hK
  obtain ⟨rfl, hZ, hh⟩ := hP
  have hx := Bd.exec
  have hby := Bd.bytes
  have hml : c.maxLocals = 3 := hml0
  have hown : s.vm.findClass "jdk/internal/util/Preconditions" = some m.cls := findClass_of_methodNamed Bd.named
  have hnm := (name_of_methodNamed Bd.named Bd.method).1
  have hlk : meth.locks = false := Bd.notSynchronized
  have X0 : Stand p l e ({ frames := 0, cells := 0, slots := 0, locals := 0 } : Room) s m #[(.int p0), (.int p1), w2] below meth c s₁ [] 0 0 := Stand.of_body Bd
  have e0 : s₁.heap = h0 := by rw [← hh, Bd.state]; rfl
  have N0 := Fr.nil n0
  show OwnEnds p.tables e below (OwnQ s ({ frames := 0, cells := 0, slots := 0, locals := 0 } : Room).cells ({ frames := 0, cells := 0, slots := 0, locals := 0 } : Room).slots (Q6 Z p0 p1 w2 h0 n0)) (s₁.setTop (entryFrame m #[(.int p0), (.int p1), w2] 3))
  refine own_via (fun t k => castTop (ef_6 m p0 p1 w2 hr_w2) k) ?_
  show OwnEnds p.tables e below _ (s₁.setTop (mkF m 0 #[.val (.int p0), .val (.int p1), .val w2] []))
  refine own_via (fun t k => XS.iloadN X0.here hx rfl (hb hby d6_0) rfl k) ?_
  show OwnEnds p.tables e below _ (s₁.setTop (mkF m 1 #[.val (.int p0), .val (.int p1), .val w2] [(.int p0)]))
  have hc1_1 : ¬ (p0 < (0 : Int32)) := hi0
  refine own_via (fun t k => XS.ifNo X0.here hx rfl (hb hby d6_1) rfl ((if0 _ _).trans (flt hc1_1).1) k) ?_
  show OwnEnds p.tables e below _ (s₁.setTop (mkF m 4 #[.val (.int p0), .val (.int p1), .val w2] []))
  refine own_via (fun t k => XS.iloadN X0.here hx rfl (hb hby d6_4) rfl k) ?_
  show OwnEnds p.tables e below _ (s₁.setTop (mkF m 5 #[.val (.int p0), .val (.int p1), .val w2] [(.int p0)]))
  refine own_via (fun t k => XS.iloadN X0.here hx rfl (hb hby d6_5) rfl k) ?_
  show OwnEnds p.tables e below _ (s₁.setTop (mkF m 6 #[.val (.int p0), .val (.int p1), .val w2] [(.int p1), (.int p0)]))
  have hc6_2 : p0 < p1 := hi1
  refine own_via (fun t k => XS.icmpYes X0.here hx rfl (pc0 := 6) (pc' := 16) rfl (hb hby d6_6) rfl (tlt hc6_2).1 (by decide) (by decide) k) ?_
  show OwnEnds p.tables e below _ (s₁.setTop (mkF m 16 #[.val (.int p0), .val (.int p1), .val w2] []))
  refine own_via (fun t k => XS.iloadN X0.here hx rfl (hb hby d6_16) rfl k) ?_
  show OwnEnds p.tables e below _ (s₁.setTop (mkF m 17 #[.val (.int p0), .val (.int p1), .val w2] [(.int p0)]))
  refine own_retI X0 hx Bd.returns hlk (hb hby d6_17) ?_ (by decide) (by decide)
  rw [e0]
  exact ⟨rfl, N0, rfl⟩
theorem d5_0 : decode jdk_42_method_155_code 0 = .ok (.iload_n 0, 1) := by decide +kernel
theorem d5_1 : decode jdk_42_method_155_code 1 = .ok (.iload_n 1, 1) := by decide +kernel
theorem d5_2 : decode jdk_42_method_155_code 2 = .ok (.getstatic 1053, 3) := by decide +kernel
theorem d5_5 : decode jdk_42_method_155_code 5 = .ok (.invokestatic 1059, 3) := by decide +kernel
theorem d5_8 : decode jdk_42_method_155_code 8 = .ok (.pop, 1) := by decide +kernel
theorem d5_9 : decode jdk_42_method_155_code 9 = .ok (.return_, 1) := by decide +kernel
theorem ef_5 (m : MethodId) (p0 : Int32) (p1 : Int32) : entryFrame m #[(.int p0), (.int p1)] 2 = mkF m 0 #[.val (.int p0), .val (.int p1)] [] := by first | (simp [entryFrame, mkF, argsToLocals, Value.category]; done) | rfl
def Q5 (Z : State) (p0 : Int32) (p1 : Int32) (fm : Value) (h0 : Heap) (n0 : Nat) (v : Option Value) (h : Heap) (L : List Loc) : Prop := v = none ∧ Fr n0 L ∧ h = h0
theorem pd_0 : parseMethodDescriptor "(IILjava/util/function/BiFunction;)I" = some ⟨[.int, .int, (.object "java/util/function/BiFunction")], some .int⟩ := by decide +kernel
set_option maxRecDepth 65536 in
set_option maxHeartbeats 40000000 in
theorem rm5 (l : Launch) (Z : State) (aw : Array Value) (hw : ∀ d ∈ tables_1, d.before aw Z = true) (ws : List Jvm.Cond) (p0 : Int32) (p1 : Int32) (fm : Value) (h0 : Heap) (n0 : Nat) (Z0 : n0 ≤ h0.size) (S_fm : Sta Z Z.heap "jdk/internal/util/Preconditions" "SIOOBE_FORMATTER" "Ljava/util/function/BiFunction;" fm) (hr_fm : fm.isRef = true) (O0 : Old Z n0 h0) (hi0 : ¬ p0 < 0) (hi1 : p0 < p1) :
    MetFree l (⟨"java/lang/String", "checkIndex", "(II)V"⟩ : MethodName) (head1 (Jvm.Cond.code (⟨"java/lang/String", "checkIndex", "(II)V"⟩ : MethodName) jdk_42_method_155_code 2 none :: ws) ({ frames := 1, cells := 0, slots := 0, locals := 14 } : Room)) (fun a U => a = #[(.int p0), (.int p1)] ∧ Z.Warmed39 U.vm ∧ U.heap = h0) (fun _ _ _ _ _ => True) (fun _ U o U' => ∃ v L, o = .returned v ∧ Q5 Z p0 p1 fm h0 n0 v U'.heap L ∧ FrameEnd U o U' L ({ frames := 1, cells := 0, slots := 0, locals := 14 } : Room).cells ({ frames := 1, cells := 0, slots := 0, locals := 14 } : Room).slots) := by
  refine MetFree.of_bodySF (plainFor_of_name pn_0) hisR ?_
  intro p e s m args below meth c s₁ Bd hml0 hP hK
  obtain ⟨rfl, hZ, hh⟩ := hP
  have hx := Bd.exec
  have hby := Bd.bytes
  have hml : c.maxLocals = 2 := hml0
  have hown : s.vm.findClass "java/lang/String" = some m.cls := findClass_of_methodNamed Bd.named
  have hnm := (name_of_methodNamed Bd.named Bd.method).1
  have hlk : meth.locks = false := Bd.notSynchronized
  have X0 : Stand p l e ({ frames := 1, cells := 0, slots := 0, locals := 14 } : Room) s m #[(.int p0), (.int p1)] below meth c s₁ [] 0 0 := Stand.of_body Bd
  have e0 : s₁.heap = h0 := by rw [← hh, Bd.state]; rfl
  have N0 := Fr.nil n0
  show OwnEnds p.tables e below (OwnQ s ({ frames := 1, cells := 0, slots := 0, locals := 14 } : Room).cells ({ frames := 1, cells := 0, slots := 0, locals := 14 } : Room).slots (Q5 Z p0 p1 fm h0 n0)) (s₁.setTop (entryFrame m #[(.int p0), (.int p1)] 2))
  refine own_via (fun t k => castTop (ef_5 m p0 p1) k) ?_
  show OwnEnds p.tables e below _ (s₁.setTop (mkF m 0 #[.val (.int p0), .val (.int p1)] []))
  refine own_via (fun t k => XS.iloadN X0.here hx rfl (hb hby d5_0) rfl k) ?_
  show OwnEnds p.tables e below _ (s₁.setTop (mkF m 1 #[.val (.int p0), .val (.int p1)] [(.int p0)]))
  refine own_via (fun t k => XS.iloadN X0.here hx rfl (hb hby d5_1) rfl k) ?_
  show OwnEnds p.tables e below _ (s₁.setTop (mkF m 2 #[.val (.int p0), .val (.int p1)] [(.int p1), (.int p0)]))
  obtain ⟨T1, X1, e1, st1⟩ := getS2 X0 hx hZ hown (host := "") (Or.inl (hw _ (List.mem_of_getElem? (i := 32) rfl))) Via.refl e0 (S_fm.ext O0.2) (g := (mkF m 2 #[.val (.int p0), .val (.int p1)] [(.int p1), (.int p0)])) rfl (hb hby d5_2)
  refine own_via st1 ?_
  show OwnEnds p.tables e below _ (T1.setTop (mkF m 5 #[.val (.int p0), .val (.int p1)] [fm, (.int p1), (.int p0)]))
  obtain ⟨_, _, ⟨T2, L2, k2, n2⟩, -, X2, ⟨Lc2, hQ2, l2, y2, z2⟩, st2⟩ := Jvm.LawKit.callS X1 hx (y := (⟨"jdk/internal/util/Preconditions", "checkIndex", "(IILjava/util/function/BiFunction;)I"⟩ : MethodName)) hown (mvT hZ (hw _ (List.mem_of_getElem? (i := 34) rfl))) (mvT hZ (hw _ (List.mem_of_getElem? (i := 35) rfl))) (mvT hZ (hw _ (List.mem_of_getElem? (i := 33) rfl))) (mvT hZ (hw _ (List.mem_of_getElem? (i := 36) rfl))) (by decide) (backOf (W := 0) (rm6 l Z aw hw [] p0 p1 fm h0 n0 Z0 hr_fm hi0 hi1) hZ (hw _ (List.mem_of_getElem? (i := 36) rfl)) (hw _ (List.mem_of_getElem? (i := 33) rfl)) (by decide) (by decide)) (g := (mkF m 5 #[.val (.int p0), .val (.int p1)] [fm, (.int p1), (.int p0)])) rfl (by rw [hml]; rfl) (argsL := [(.int p0), (.int p1), fm]) (rest := []) (lenOf pd_0 rfl) rfl (by show 2 * 0 + _ ≤ _; exact Nat.le_of_eq rfl) (hb hby d5_5) (fun _ _ => ⟨rfl, e1, (by decide : 0 + 0 ≤ _), (by decide : 0 + 0 ≤ _)⟩)
  dsimp only [Pt.U, Pt.locs, Pt.cells, Pt.slots] at X2 l2 y2 z2 st2 hQ2
  subst l2 y2 z2
  obtain ⟨rfl, Nq2, e2⟩ := hQ2
  have N2 := Fr.app N0 Nq2
  replace e2 : T2.heap = h0 := e2
  refine own_via st2 ?_
  show OwnEnds p.tables e below _ (T2.setTop (mkF m 8 #[.val (.int p0), .val (.int p1)] [(.int p0)]))
  refine own_via (fun t k => XS.pop X2.here hx rfl (hb hby d5_8) rfl rfl k) ?_
  show OwnEnds p.tables e below _ (T2.setTop (mkF m 9 #[.val (.int p0), .val (.int p1)] []))
  refine own_retV X2 hx Bd.returns hlk (hb hby d5_9) ?_ (by decide) (by decide)
  rw [e2]
  exact ⟨rfl, N2, rfl⟩
theorem d4_0 : decode jdk_43_method_2_code 0 = .ok (.iload_n 1, 1) := by decide +kernel
theorem d4_1 : decode jdk_43_method_2_code 1 = .ok (.aload_n 0, 1) := by decide +kernel
theorem d4_2 : decode jdk_43_method_2_code 2 = .ok (.arraylength, 1) := by decide +kernel
theorem d4_3 : decode jdk_43_method_2_code 3 = .ok (.invokestatic 9, 3) := by decide +kernel
theorem d4_6 : decode jdk_43_method_2_code 6 = .ok (.aload_n 0, 1) := by decide +kernel
theorem d4_7 : decode jdk_43_method_2_code 7 = .ok (.iload_n 1, 1) := by decide +kernel
theorem d4_8 : decode jdk_43_method_2_code 8 = .ok (.baload, 1) := by decide +kernel
theorem d4_9 : decode jdk_43_method_2_code 9 = .ok (.sipush 255, 3) := by decide +kernel
theorem d4_12 : decode jdk_43_method_2_code 12 = .ok (.iand, 1) := by decide +kernel
theorem d4_13 : decode jdk_43_method_2_code 13 = .ok (.i2c, 1) := by decide +kernel
theorem d4_14 : decode jdk_43_method_2_code 14 = .ok (.ireturn, 1) := by decide +kernel
theorem pn_2 : plainName "java/lang/StringLatin1" = true := by first | (simp [plainName, overriddenIn]; done) | decide +kernel
theorem ef_4 (m : MethodId) (a0 : Addr) (p1 : Int32) : entryFrame m #[(.ref a0), (.int p1)] 2 = mkF m 0 #[.val (.ref a0), .val (.int p1)] [] := by first | (simp [entryFrame, mkF, argsToLocals, Value.category]; done) | rfl
def Q4 (Z : State) (a0 : Addr) (p1 : Int32) (bs : List Value) (zn : Int32) (i : Nat) (x : Int32) (fm : Value) (h0 : Heap) (n0 : Nat) (v : Option Value) (h : Heap) (L : List Loc) : Prop := v = some (.int (own_c8 x)) ∧ Fr n0 L ∧ h = h0
theorem pd_1 : parseMethodDescriptor "(II)V" = some ⟨[.int, .int], none⟩ := by decide +kernel
set_option maxRecDepth 65536 in
set_option maxHeartbeats 40000000 in
theorem rm4 (l : Launch) (Z : State) (aw : Array Value) (hw : ∀ d ∈ tables_1, d.before aw Z = true) (ws : List Jvm.Cond) (a0 : Addr) (p1 : Int32) (bs : List Value) (zn : Int32) (i : Nat) (x : Int32) (fm : Value) (h0 : Heap) (n0 : Nat) (Z0 : n0 ≤ h0.size) (A_a0 : AL Z h0 a0 .byte bs) (S_fm : Sta Z Z.heap "jdk/internal/util/Preconditions" "SIOOBE_FORMATTER" "Ljava/util/function/BiFunction;" fm) (hr_fm : fm.isRef = true) (O0 : Old Z n0 h0) (hzn : zn.toInt = bs.length) (hi : p1.toInt = i) (hx0 : bs[i]? = some (.int x)) :
    MetFree l (⟨"java/lang/StringLatin1", "charAt", "([BI)C"⟩ : MethodName) (head1 (Jvm.Cond.code (⟨"java/lang/StringLatin1", "charAt", "([BI)C"⟩ : MethodName) jdk_43_method_2_code 2 (some .char) :: ws) ({ frames := 2, cells := 0, slots := 0, locals := 27 } : Room)) (fun a U => a = #[(.ref a0), (.int p1)] ∧ Z.Warmed39 U.vm ∧ U.heap = h0) (fun _ _ _ _ _ => True) (fun _ U o U' => ∃ v L, o = .returned v ∧ Q4 Z a0 p1 bs zn i x fm h0 n0 v U'.heap L ∧ FrameEnd U o U' L ({ frames := 2, cells := 0, slots := 0, locals := 27 } : Room).cells ({ frames := 2, cells := 0, slots := 0, locals := 27 } : Room).slots) := by
  refine MetFree.of_bodySF (plainFor_of_name pn_2) hisR ?_
  intro p e s m args below meth c s₁ Bd hml0 hP hK
  obtain ⟨rfl, hZ, hh⟩ := hP
  have hx := Bd.exec
  have hby := Bd.bytes
  have hml : c.maxLocals = 2 := hml0
  have hown : s.vm.findClass "java/lang/StringLatin1" = some m.cls := findClass_of_methodNamed Bd.named
  have hnm := (name_of_methodNamed Bd.named Bd.method).1
  have hlk : meth.locks = false := Bd.notSynchronized
  have X0 : Stand p l e ({ frames := 2, cells := 0, slots := 0, locals := 27 } : Room) s m #[(.ref a0), (.int p1)] below meth c s₁ [] 0 0 := Stand.of_body Bd
  have e0 : s₁.heap = h0 := by rw [← hh, Bd.state]; rfl
  have N0 := Fr.nil n0
  show OwnEnds p.tables e below (OwnQ s ({ frames := 2, cells := 0, slots := 0, locals := 27 } : Room).cells ({ frames := 2, cells := 0, slots := 0, locals := 27 } : Room).slots (Q4 Z a0 p1 bs zn i x fm h0 n0)) (s₁.setTop (entryFrame m #[(.ref a0), (.int p1)] 2))
  have hi1 : p1 < zn := by rw [Int32.lt_iff_toInt_lt, hi, hzn]; have := own_lt_len hx0; omega
  have hi0 : ¬ p1 < 0 := by rw [Int32.lt_iff_toInt_lt, hi]; have e0 : (0 : Int32).toInt = 0 := rfl; omega
  refine own_via (fun t k => castTop (ef_4 m a0 p1) k) ?_
  show OwnEnds p.tables e below _ (s₁.setTop (mkF m 0 #[.val (.ref a0), .val (.int p1)] []))
  refine own_via (fun t k => XS.iloadN X0.here hx rfl (hb hby d4_0) rfl k) ?_
  show OwnEnds p.tables e below _ (s₁.setTop (mkF m 1 #[.val (.ref a0), .val (.int p1)] [(.int p1)]))
  refine own_via (fun t k => XS.aloadN X0.here hx rfl (hb hby d4_1) rfl rfl k) ?_
  show OwnEnds p.tables e below _ (s₁.setTop (mkF m 2 #[.val (.ref a0), .val (.int p1)] [(.ref a0), (.int p1)]))
  refine own_via (own_len X0 hx hZ e0 A_a0 (z := zn) hzn (g := (mkF m 2 #[.val (.ref a0), .val (.int p1)] [(.ref a0), (.int p1)])) rfl rfl (hb hby d4_2)) ?_
  show OwnEnds p.tables e below _ (s₁.setTop (mkF m 3 #[.val (.ref a0), .val (.int p1)] [(.int zn), (.int p1)]))
  obtain ⟨_, _, ⟨T1, L1, k1, n1⟩, -, X1, ⟨Lc1, hQ1, l1, y1, z1⟩, st1⟩ := Jvm.LawKit.callS X0 hx (y := (⟨"java/lang/String", "checkIndex", "(II)V"⟩ : MethodName)) hown (mvT hZ (hw _ (List.mem_of_getElem? (i := 29) rfl))) (mvT hZ (hw _ (List.mem_of_getElem? (i := 30) rfl))) (mvT hZ (hw _ (List.mem_of_getElem? (i := 5) rfl))) (mvT hZ (hw _ (List.mem_of_getElem? (i := 31) rfl))) (by decide) (backOf (W := 0) (rm5 l Z aw hw [] p1 zn fm h0 n0 Z0 S_fm hr_fm O0 hi0 hi1) hZ (hw _ (List.mem_of_getElem? (i := 31) rfl)) (hw _ (List.mem_of_getElem? (i := 5) rfl)) (by decide) (by decide)) (g := (mkF m 3 #[.val (.ref a0), .val (.int p1)] [(.int zn), (.int p1)])) rfl (by rw [hml]; rfl) (argsL := [(.int p1), (.int zn)]) (rest := []) (lenOf pd_1 rfl) rfl (by show 2 * 0 + _ ≤ _; exact Nat.le_of_eq rfl) (hb hby d4_3) (fun _ _ => ⟨rfl, e0, (by decide : 0 + 0 ≤ _), (by decide : 0 + 0 ≤ _)⟩)
  dsimp only [Pt.U, Pt.locs, Pt.cells, Pt.slots] at X1 l1 y1 z1 st1 hQ1
  subst l1 y1 z1
  obtain ⟨rfl, Nq1, e1⟩ := hQ1
  have N1 := Fr.app N0 Nq1
  replace e1 : T1.heap = h0 := e1
  refine own_via st1 ?_
  show OwnEnds p.tables e below _ (T1.setTop (mkF m 6 #[.val (.ref a0), .val (.int p1)] []))
  refine own_via (fun t k => XS.aloadN X1.here hx rfl (hb hby d4_6) rfl rfl k) ?_
  show OwnEnds p.tables e below _ (T1.setTop (mkF m 7 #[.val (.ref a0), .val (.int p1)] [(.ref a0)]))
  refine own_via (fun t k => XS.iloadN X1.here hx rfl (hb hby d4_7) rfl k) ?_
  show OwnEnds p.tables e below _ (T1.setTop (mkF m 8 #[.val (.ref a0), .val (.int p1)] [(.int p1), (.ref a0)]))
  refine own_via (own_ldB X1 hx hZ e1 A_a0 (v := (.int x)) i hi hx0 (g := (mkF m 8 #[.val (.ref a0), .val (.int p1)] [(.int p1), (.ref a0)])) rfl rfl (hb hby d4_8)) ?_
  show OwnEnds p.tables e below _ (T1.setTop (mkF m 9 #[.val (.ref a0), .val (.int p1)] [(.int x)]))
  refine own_via (fun t k => XS.sipush X1.here hx rfl (hb hby d4_9) k) ?_
  show OwnEnds p.tables e below _ (T1.setTop (mkF m 12 #[.val (.ref a0), .val (.int p1)] [(.int (255 : Int32)), (.int x)]))
  refine own_via (fun t k => XS.iand X1.here hx rfl (hb hby d4_12) rfl k) ?_
  show OwnEnds p.tables e below _ (T1.setTop (mkF m 13 #[.val (.ref a0), .val (.int p1)] [(.int (x &&& (255 : Int32)))]))
  refine own_via (fun t k => XS.i2c X1.here hx rfl (hb hby d4_13) rfl k) ?_
  show OwnEnds p.tables e below _ (T1.setTop (mkF m 14 #[.val (.ref a0), .val (.int p1)] [(.int ((x &&& (255 : Int32)).toUInt32.toUInt16.toUInt32.toInt32))]))
  refine own_retN (t := .char) X1 hx Bd.returns (by simp) hlk (hb hby d4_14) ?_ (by decide) (by decide)
  rw [e1]
  exact ⟨rfl, N1, rfl⟩
theorem d2_0 : decode jdk_42_method_56_code 0 = .ok (.aload_n 0, 1) := by decide +kernel
theorem d2_1 : decode jdk_42_method_56_code 1 = .ok (.invokevirtual 492, 3) := by decide +kernel
theorem d2_4 : decode jdk_42_method_56_code 4 = .ok (.ifCond .eq 12, 3) := by decide +kernel
theorem d2_7 : decode jdk_42_method_56_code 7 = .ok (.aload_n 0, 1) := by decide +kernel
theorem d2_8 : decode jdk_42_method_56_code 8 = .ok (.getfield 9, 3) := by decide +kernel
theorem d2_11 : decode jdk_42_method_56_code 11 = .ok (.iload_n 1, 1) := by decide +kernel
theorem d2_12 : decode jdk_42_method_56_code 12 = .ok (.invokestatic 495, 3) := by decide +kernel
theorem d2_15 : decode jdk_42_method_56_code 15 = .ok (.ireturn, 1) := by decide +kernel
theorem d2_16 : decode jdk_42_method_56_code 16 = .ok (.aload_n 0, 1) := by decide +kernel
theorem d2_17 : decode jdk_42_method_56_code 17 = .ok (.getfield 9, 3) := by decide +kernel
theorem d2_20 : decode jdk_42_method_56_code 20 = .ok (.iload_n 1, 1) := by decide +kernel
theorem d2_21 : decode jdk_42_method_56_code 21 = .ok (.invokestatic 498, 3) := by decide +kernel
theorem d2_24 : decode jdk_42_method_56_code 24 = .ok (.ireturn, 1) := by decide +kernel
theorem ef_2 (m : MethodId) (a0 : Addr) (p1 : Int32) : entryFrame m #[(.ref a0), (.int p1)] 2 = mkF m 0 #[.val (.ref a0), .val (.int p1)] [] := by first | (simp [entryFrame, mkF, argsToLocals, Value.category]; done) | rfl
def Q2 (Z : State) (a0 : Addr) (p1 : Int32) (sb : Addr) (bs : List Value) (zn : Int32) (i : Nat) (x : Int32) (cs : Int32) (fm : Value) (h0 : Heap) (n0 : Nat) (v : Option Value) (h : Heap) (L : List Loc) : Prop := v = some (.int (nar .char (own_c8 x))) ∧ Fr n0 L ∧ h = h0
theorem pd_2 : parseMethodDescriptor "()Z" = some ⟨[], some .boolean⟩ := by decide +kernel
theorem pd_3 : parseMethodDescriptor "([BI)C" = some ⟨[(.array .byte), .int], some .char⟩ := by decide +kernel
set_option maxRecDepth 65536 in
set_option maxHeartbeats 40000000 in
theorem rm2 (l : Launch) (Z : State) (aw : Array Value) (hw : ∀ d ∈ tables_1, d.before aw Z = true) (ws : List Jvm.Cond) (a0 : Addr) (p1 : Int32) (sb : Addr) (bs : List Value) (zn : Int32) (i : Nat) (x : Int32) (cs : Int32) (fm : Value) (h0 : Heap) (n0 : Nat) (Z0 : n0 ≤ h0.size) (E_a0 : Exa Z h0 a0 "java/lang/String") (F_coder_a0 : Fld Z h0 a0 "java/lang/String" "coder" "B" (.int (0 : Int32))) (F_value_a0 : Fld Z h0 a0 "java/lang/String" "value" "[B" (.ref sb)) (A_sb : AL Z h0 sb .byte bs) (S_cs : Sta Z Z.heap "java/lang/String" "COMPACT_STRINGS" "Z" (.int cs)) (S_fm : Sta Z Z.heap "jdk/internal/util/Preconditions" "SIOOBE_FORMATTER" "Ljava/util/function/BiFunction;" fm) (hcs : ¬ cs = 0) (hr_fm : fm.isRef = true) (O0 : Old Z n0 h0) (hzn : zn.toInt = bs.length) (hi : p1.toInt = i) (hx0 : bs[i]? = some (.int x)) :
    MetFree l (⟨"java/lang/String", "charAt", "(I)C"⟩ : MethodName) (head1 (Jvm.Cond.code (⟨"java/lang/String", "charAt", "(I)C"⟩ : MethodName) jdk_42_method_56_code 2 (some .char) :: ws) ({ frames := 3, cells := 0, slots := 0, locals := 40 } : Room)) (fun a U => a = #[(.ref a0), (.int p1)] ∧ Z.Warmed39 U.vm ∧ U.heap = h0) (fun _ _ _ _ _ => True) (fun _ U o U' => ∃ v L, o = .returned v ∧ Q2 Z a0 p1 sb bs zn i x cs fm h0 n0 v U'.heap L ∧ FrameEnd U o U' L ({ frames := 3, cells := 0, slots := 0, locals := 40 } : Room).cells ({ frames := 3, cells := 0, slots := 0, locals := 40 } : Room).slots) := by
  refine MetFree.of_bodySF (plainFor_of_name pn_0) hisR ?_
  intro p e s m args below meth c s₁ Bd hml0 hP hK
  obtain ⟨rfl, hZ, hh⟩ := hP
  have hx := Bd.exec
  have hby := Bd.bytes
  have hml : c.maxLocals = 2 := hml0
  have hown : s.vm.findClass "java/lang/String" = some m.cls := findClass_of_methodNamed Bd.named
  have hnm := (name_of_methodNamed Bd.named Bd.method).1
  have hlk : meth.locks = false := Bd.notSynchronized
  have X0 : Stand p l e ({ frames := 3, cells := 0, slots := 0, locals := 40 } : Room) s m #[(.ref a0), (.int p1)] below meth c s₁ [] 0 0 := Stand.of_body Bd
  have e0 : s₁.heap = h0 := by rw [← hh, Bd.state]; rfl
  have N0 := Fr.nil n0
  show OwnEnds p.tables e below (OwnQ s ({ frames := 3, cells := 0, slots := 0, locals := 40 } : Room).cells ({ frames := 3, cells := 0, slots := 0, locals := 40 } : Room).slots (Q2 Z a0 p1 sb bs zn i x cs fm h0 n0)) (s₁.setTop (entryFrame m #[(.ref a0), (.int p1)] 2))
  refine own_via (fun t k => castTop (ef_2 m a0 p1) k) ?_
  show OwnEnds p.tables e below _ (s₁.setTop (mkF m 0 #[.val (.ref a0), .val (.int p1)] []))
  refine own_via (fun t k => XS.aloadN X0.here hx rfl (hb hby d2_0) rfl rfl k) ?_
  show OwnEnds p.tables e below _ (s₁.setTop (mkF m 1 #[.val (.ref a0), .val (.int p1)] [(.ref a0)]))
  obtain ⟨cq1, kq1, q1a, q1b, q1c⟩ := isOf hZ e0 E_a0
  obtain ⟨_, _, ⟨T1, L1, k1, n1⟩, -, X1, ⟨Lc1, hQ1, l1, y1, z1⟩, st1⟩ := X0.virtualBack hx (y := (⟨"java/lang/String", "isLatin1", "()Z"⟩ : MethodName)) (z := (⟨"java/lang/String", "isLatin1", "()Z"⟩ : MethodName)) hown (mvT hZ (hw _ (List.mem_of_getElem? (i := 17) rfl))) (mvT hZ (hw _ (List.mem_of_getElem? (i := 18) rfl))) (notFace_of_selects (args := #[]) (mvT hZ (hw _ (List.mem_of_getElem? (i := 20) rfl)))) (mvT hZ (hw _ (List.mem_of_getElem? (i := 20) rfl))) (mvT hZ (hw _ (List.mem_of_getElem? (i := 19) rfl))) (by decide) (backOf (W := 0) (rm3 l Z aw hw [] a0 cs h0 n0 Z0 E_a0 F_coder_a0 S_cs hcs O0) hZ (hw _ (List.mem_of_getElem? (i := 21) rfl)) (hw _ (List.mem_of_getElem? (i := 5) rfl)) (by decide) (by decide)) q1a q1c (g := (mkF m 1 #[.val (.ref a0), .val (.int p1)] [(.ref a0)])) rfl (by rw [hml]; rfl) (Steps.refl _) (argsL := []) (rest := []) (lenOf pd_2 rfl) rfl (by show 2 * 0 + _ ≤ _; exact Nat.le_of_eq rfl) (hb hby d2_1) (fun _ _ => ⟨rfl, e0, (by decide : 0 + 0 ≤ _), (by decide : 0 + 0 ≤ _)⟩)
  dsimp only [Pt.U, Pt.locs, Pt.cells, Pt.slots] at X1 l1 y1 z1 st1 hQ1
  subst l1 y1 z1
  obtain ⟨rfl, Nq1, e1⟩ := hQ1
  have N1 := Fr.app N0 Nq1
  replace e1 : T1.heap = h0 := e1
  refine own_of st1 ?_
  show OwnEnds p.tables e below _ (T1.setTop (mkF m 4 #[.val (.ref a0), .val (.int p1)] [(.int (1 : Int32))]))
  have hc4_2 : ¬ ((1 : Int32) = (0 : Int32)) := by decide
  refine own_via (fun t k => XS.ifNo X1.here hx rfl (hb hby d2_4) rfl ((if0 _ _).trans (feq hc4_2).1) k) ?_
  show OwnEnds p.tables e below _ (T1.setTop (mkF m 7 #[.val (.ref a0), .val (.int p1)] []))
  refine own_via (fun t k => XS.aloadN X1.here hx rfl (hb hby d2_7) rfl rfl k) ?_
  show OwnEnds p.tables e below _ (T1.setTop (mkF m 8 #[.val (.ref a0), .val (.int p1)] [(.ref a0)]))
  obtain ⟨T3, X3, e3, st3⟩ := getF X1 hx hZ hown (host := "") (Or.inl (hw _ (List.mem_of_getElem? (i := 24) rfl))) Via.refl e1 F_value_a0 (g := (mkF m 8 #[.val (.ref a0), .val (.int p1)] [(.ref a0)])) rfl rfl (hb hby d2_8)
  refine own_via st3 ?_
  show OwnEnds p.tables e below _ (T3.setTop (mkF m 11 #[.val (.ref a0), .val (.int p1)] [(.ref sb)]))
  refine own_via (fun t k => XS.iloadN X3.here hx rfl (hb hby d2_11) rfl k) ?_
  show OwnEnds p.tables e below _ (T3.setTop (mkF m 12 #[.val (.ref a0), .val (.int p1)] [(.int p1), (.ref sb)]))
  obtain ⟨_, _, ⟨T4, L4, k4, n4⟩, -, X4, ⟨Lc4, hQ4, l4, y4, z4⟩, st4⟩ := Jvm.LawKit.callS X3 hx (y := (⟨"java/lang/StringLatin1", "charAt", "([BI)C"⟩ : MethodName)) hown (mvT hZ (hw _ (List.mem_of_getElem? (i := 25) rfl))) (mvT hZ (hw _ (List.mem_of_getElem? (i := 26) rfl))) (mvT hZ (hw _ (List.mem_of_getElem? (i := 27) rfl))) (mvT hZ (hw _ (List.mem_of_getElem? (i := 28) rfl))) (by decide) (backOf (W := 0) (rm4 l Z aw hw [] sb p1 bs zn i x fm h0 n0 Z0 A_sb S_fm hr_fm O0 hzn hi hx0) hZ (hw _ (List.mem_of_getElem? (i := 28) rfl)) (hw _ (List.mem_of_getElem? (i := 27) rfl)) (by decide) (by decide)) (g := (mkF m 12 #[.val (.ref a0), .val (.int p1)] [(.int p1), (.ref sb)])) rfl (by rw [hml]; rfl) (argsL := [(.ref sb), (.int p1)]) (rest := []) (lenOf pd_3 rfl) rfl (by show 2 * 0 + _ ≤ _; exact Nat.le_of_eq rfl) (hb hby d2_12) (fun _ _ => ⟨rfl, e3, (by decide : 0 + 0 ≤ _), (by decide : 0 + 0 ≤ _)⟩)
  dsimp only [Pt.U, Pt.locs, Pt.cells, Pt.slots] at X4 l4 y4 z4 st4 hQ4
  subst l4 y4 z4
  obtain ⟨rfl, Nq4, e4⟩ := hQ4
  have N4 := Fr.app N1 Nq4
  replace e4 : T4.heap = h0 := e4
  refine own_via st4 ?_
  show OwnEnds p.tables e below _ (T4.setTop (mkF m 15 #[.val (.ref a0), .val (.int p1)] [(.int (own_c8 x))]))
  refine own_retN (t := .char) X4 hx Bd.returns (by simp) hlk (hb hby d2_15) ?_ (by decide) (by decide)
  rw [e4]
  exact ⟨rfl, N4, rfl⟩
theorem own_nar1 : nar .boolean (1 : Int32) = 1 := rfl
theorem own_nar0 : nar .boolean (0 : Int32) = 0 := rfl
def own_val (x : Int32) : Int32 := if x < 48 then (if x < 65 then -1 else if 70 < x then -1 else x - 65 + 10) else if 57 < x then (if x < 65 then -1 else if 70 < x then -1 else x - 65 + 10) else x - 48
def own_dg (n : Nat) : Int32 := Int32.ofNat (if n < 10 then 48 + n else 55 + n)
theorem own_tab : ∀ k : Fin 16, ([.int 48, .int 49, .int 50, .int 51, .int 52, .int 53, .int 54, .int 55, .int 56, .int 57, .int 65, .int 66, .int 67, .int 68, .int 69, .int 70] : List Value)[k.val]? = some (.int (own_dg k.val)) := by decide +kernel
theorem own_chr : ∀ k : Fin 16, nar .char (own_c8 (own_dg k.val)) = own_dg k.val := by decide +kernel
theorem own_cmp : ∀ k : Fin 16, own_val (own_dg k.val) = Int32.ofNat k.val := by decide +kernel
theorem own_k (x : Int32) : ∃ k : Fin 16, x &&& 15 = Int32.ofNat k.val ∧ (x &&& 15).toInt = k.val := by
  have h := c_and x 15 (by decide)
  have e : (15 : Int32).toInt = 15 := rfl
  have q : (x &&& 15).toInt = (x &&& 15).toInt.toNat := by omega
  refine ⟨⟨(x &&& 15).toInt.toNat, by omega⟩, Int32.toInt_inj.mp ?_, q⟩
  rw [Int32.toInt_ofNat_of_lt (by show (x &&& 15).toInt.toNat < _; omega)]; exact q
theorem own_dgI (n : Nat) (h : n < 16) : (own_dg n).toInt = if n < 10 then 48 + (n : Int) else 55 + n := by
  unfold own_dg
  by_cases c : n < 10
  · rw [if_pos c, if_pos c, Int32.toInt_ofNat_of_lt (by omega)]; omega
  · rw [if_neg c, if_neg c, Int32.toInt_ofNat_of_lt (by omega)]; omega
theorem own_snd {x : Int32} (h : ¬ own_val x = -1) : ∃ k : Fin 16, x = own_dg k.val := by
  unfold own_val at h
  have hx : (48 ≤ x.toInt ∧ x.toInt ≤ 57) ∨ (65 ≤ x.toInt ∧ x.toInt ≤ 70) := by
    by_cases c1 : x < 48
    · rw [if_pos c1] at h
      by_cases c2 : x < 65
      · rw [if_pos c2] at h; exact absurd rfl h
      · rw [if_neg c2] at h; rw [Int32.lt_iff_toInt_lt] at c1 c2; simp only [Int32.reduceToInt] at c1 c2; omega
    · rw [if_neg c1] at h
      by_cases c3 : 57 < x
      · rw [if_pos c3] at h
        by_cases c2 : x < 65
        · rw [if_pos c2] at h; exact absurd rfl h
        · rw [if_neg c2] at h
          by_cases c4 : 70 < x
          · rw [if_pos c4] at h; exact absurd rfl h
          · rw [Int32.lt_iff_toInt_lt] at c2 c4; simp only [Int32.reduceToInt] at c2 c4; omega
      · rw [Int32.lt_iff_toInt_lt] at c1 c3; simp only [Int32.reduceToInt] at c1 c3; omega
  rcases hx with hx | hx
  · refine ⟨⟨(x.toInt - 48).toNat, by omega⟩, Int32.toInt_inj.mp ?_⟩
    rw [own_dgI _ (by show (x.toInt - 48).toNat < 16; omega)]
    show _ = if (x.toInt - 48).toNat < 10 then _ else _
    rw [if_pos (by omega)]; show x.toInt = 48 + (((x.toInt - 48).toNat : Nat) : Int); omega
  · refine ⟨⟨(x.toInt - 55).toNat, by omega⟩, Int32.toInt_inj.mp ?_⟩
    rw [own_dgI _ (by show (x.toInt - 55).toNat < 16; omega)]
    show _ = if (x.toInt - 55).toNat < 10 then _ else _
    rw [if_neg (by omega)]; show x.toInt = 55 + (((x.toInt - 55).toNat : Nat) : Int); omega
theorem own_i (k : Fin 16) : (Int32.ofNat k.val).toInt = k.val := Int32.toInt_ofNat_of_lt (by have := k.isLt; omega)
theorem own_i0 (k : Fin 16) : ¬ Int32.ofNat k.val < 0 := by
  rw [Int32.lt_iff_toInt_lt, own_i]; have e : (0 : Int32).toInt = 0 := rfl; omega
theorem own_i15 (k : Fin 16) : ¬ (15 : Int32) < Int32.ofNat k.val := by
  rw [Int32.lt_iff_toInt_lt, own_i]; have e : (15 : Int32).toInt = 15 := rfl; have := k.isLt; omega
def own_dig (x : Int32) : Int32 := if x < 10 then nar .char (48 + x).toUInt32.toUInt16.toUInt32.toInt32 else nar .char (65 + x - 10).toUInt32.toUInt16.toUInt32.toInt32
theorem own_dd : ∀ k : Fin 16, own_dig (Int32.ofNat k.val) = own_dg k.val := by decide +kernel
theorem d1_0 : decode prog_4_method_5_code 0 = .ok (.iload_n 0, 1) := by decide +kernel
theorem d1_1 : decode prog_4_method_5_code 1 = .ok (.bipush 10, 2) := by decide +kernel
theorem d1_3 : decode prog_4_method_5_code 3 = .ok (.if_icmp .ge 10, 3) := by decide +kernel
theorem d1_6 : decode prog_4_method_5_code 6 = .ok (.bipush 48, 2) := by decide +kernel
theorem d1_8 : decode prog_4_method_5_code 8 = .ok (.iload_n 0, 1) := by decide +kernel
theorem d1_9 : decode prog_4_method_5_code 9 = .ok (.iadd, 1) := by decide +kernel
theorem d1_10 : decode prog_4_method_5_code 10 = .ok (.goto 10, 3) := by decide +kernel
theorem d1_13 : decode prog_4_method_5_code 13 = .ok (.bipush 65, 2) := by decide +kernel
theorem d1_15 : decode prog_4_method_5_code 15 = .ok (.iload_n 0, 1) := by decide +kernel
theorem d1_16 : decode prog_4_method_5_code 16 = .ok (.iadd, 1) := by decide +kernel
theorem d1_17 : decode prog_4_method_5_code 17 = .ok (.bipush 10, 2) := by decide +kernel
theorem d1_19 : decode prog_4_method_5_code 19 = .ok (.isub, 1) := by decide +kernel
theorem d1_20 : decode prog_4_method_5_code 20 = .ok (.i2c, 1) := by decide +kernel
theorem d1_21 : decode prog_4_method_5_code 21 = .ok (.ireturn, 1) := by decide +kernel
theorem pn_3 : plainName "com/example/shelfmark/shelfmark/Digits" = true := by first | (simp [plainName, overriddenIn]; done) | decide +kernel
theorem ef_1 (m : MethodId) (p0 : Int32) : entryFrame m #[(.int p0)] 1 = mkF m 0 #[.val (.int p0)] [] := by first | (simp [entryFrame, mkF, argsToLocals, Value.category]; done) | rfl
def Q1 (Z : State) (p0 : Int32) (h0 : Heap) (n0 : Nat) (v : Option Value) (h : Heap) (L : List Loc) : Prop := v = some (.int (own_dig p0)) ∧ Fr n0 L ∧ h = h0
set_option maxRecDepth 65536 in
set_option maxHeartbeats 40000000 in
theorem rm1 (l : Launch) (Z : State) (aw : Array Value) (hw : ∀ d ∈ tables_1, d.before aw Z = true) (ws : List Jvm.Cond) (p0 : Int32) (h0 : Heap) (n0 : Nat) (Z0 : n0 ≤ h0.size) :
    MetFree l (⟨"com/example/shelfmark/shelfmark/Digits", "digit", "(I)C"⟩ : MethodName) (head1 (Jvm.Cond.code (⟨"com/example/shelfmark/shelfmark/Digits", "digit", "(I)C"⟩ : MethodName) prog_4_method_5_code 1 (some .char) :: ws) ({ frames := 0, cells := 0, slots := 0, locals := 0 } : Room)) (fun a U => a = #[(.int p0)] ∧ Z.Warmed39 U.vm ∧ U.heap = h0) (fun _ _ _ _ _ => True) (fun _ U o U' => ∃ v L, o = .returned v ∧ Q1 Z p0 h0 n0 v U'.heap L ∧ FrameEnd U o U' L ({ frames := 0, cells := 0, slots := 0, locals := 0 } : Room).cells ({ frames := 0, cells := 0, slots := 0, locals := 0 } : Room).slots) := by
  refine MetFree.of_bodySF (plainFor_of_name pn_3) hisR ?_
  intro p e s m args below meth c s₁ Bd hml0 hP hK
  obtain ⟨rfl, hZ, hh⟩ := hP
  have hx := Bd.exec
  have hby := Bd.bytes
  have hml : c.maxLocals = 1 := hml0
  have hown : s.vm.findClass "com/example/shelfmark/shelfmark/Digits" = some m.cls := findClass_of_methodNamed Bd.named
  have hnm := (name_of_methodNamed Bd.named Bd.method).1
  have hlk : meth.locks = false := Bd.notSynchronized
  have X0 : Stand p l e ({ frames := 0, cells := 0, slots := 0, locals := 0 } : Room) s m #[(.int p0)] below meth c s₁ [] 0 0 := Stand.of_body Bd
  have e0 : s₁.heap = h0 := by rw [← hh, Bd.state]; rfl
  have N0 := Fr.nil n0
  show OwnEnds p.tables e below (OwnQ s ({ frames := 0, cells := 0, slots := 0, locals := 0 } : Room).cells ({ frames := 0, cells := 0, slots := 0, locals := 0 } : Room).slots (Q1 Z p0 h0 n0)) (s₁.setTop (entryFrame m #[(.int p0)] 1))
  refine own_via (fun t k => castTop (ef_1 m p0) k) ?_
  show OwnEnds p.tables e below _ (s₁.setTop (mkF m 0 #[.val (.int p0)] []))
  refine own_via (fun t k => XS.iloadN X0.here hx rfl (hb hby d1_0) rfl k) ?_
  show OwnEnds p.tables e below _ (s₁.setTop (mkF m 1 #[.val (.int p0)] [(.int p0)]))
  refine own_via (fun t k => XS.bipush X0.here hx rfl (hb hby d1_1) k) ?_
  show OwnEnds p.tables e below _ (s₁.setTop (mkF m 3 #[.val (.int p0)] [(.int (10 : Int32)), (.int p0)]))
  by_cases hc3_1 : p0 < (10 : Int32)
  · skip
    refine own_via (fun t k => XS.icmpNo X0.here hx rfl (hb hby d1_3) rfl (tlt hc3_1).2.1 k) ?_
    show OwnEnds p.tables e below _ (s₁.setTop (mkF m 6 #[.val (.int p0)] []))
    refine own_via (fun t k => XS.bipush X0.here hx rfl (hb hby d1_6) k) ?_
    show OwnEnds p.tables e below _ (s₁.setTop (mkF m 8 #[.val (.int p0)] [(.int (48 : Int32))]))
    refine own_via (fun t k => XS.iloadN X0.here hx rfl (hb hby d1_8) rfl k) ?_
    show OwnEnds p.tables e below _ (s₁.setTop (mkF m 9 #[.val (.int p0)] [(.int p0), (.int (48 : Int32))]))
    refine own_via (fun t k => XS.iadd X0.here hx rfl (hb hby d1_9) rfl k) ?_
    show OwnEnds p.tables e below _ (s₁.setTop (mkF m 10 #[.val (.int p0)] [(.int ((48 : Int32) + p0))]))
    refine own_via (fun t k => XS.goto X0.here hx rfl (pc0 := 10) (pc' := 20) rfl (hb hby d1_10) (by decide) (by decide) k) ?_
    show OwnEnds p.tables e below _ (s₁.setTop (mkF m 20 #[.val (.int p0)] [(.int ((48 : Int32) + p0))]))
    refine own_via (fun t k => XS.i2c X0.here hx rfl (hb hby d1_20) rfl k) ?_
    show OwnEnds p.tables e below _ (s₁.setTop (mkF m 21 #[.val (.int p0)] [(.int (((48 : Int32) + p0).toUInt32.toUInt16.toUInt32.toInt32))]))
    refine own_retN (t := .char) X0 hx Bd.returns (by simp) hlk (hb hby d1_21) ?_ (by decide) (by decide)
    rw [e0]
    exact ⟨congrArg (fun z => some (Value.int z)) (show nar .char (((48 : Int32) + p0).toUInt32.toUInt16.toUInt32.toInt32) = own_dig p0 by unfold own_dig; rw [if_pos hc3_1]), N0, rfl⟩
  · skip
    refine own_via (fun t k => XS.icmpYes X0.here hx rfl (pc0 := 3) (pc' := 13) rfl (hb hby d1_3) rfl (flt hc3_1).2.1 (by decide) (by decide) k) ?_
    show OwnEnds p.tables e below _ (s₁.setTop (mkF m 13 #[.val (.int p0)] []))
    refine own_via (fun t k => XS.bipush X0.here hx rfl (hb hby d1_13) k) ?_
    show OwnEnds p.tables e below _ (s₁.setTop (mkF m 15 #[.val (.int p0)] [(.int (65 : Int32))]))
    refine own_via (fun t k => XS.iloadN X0.here hx rfl (hb hby d1_15) rfl k) ?_
    show OwnEnds p.tables e below _ (s₁.setTop (mkF m 16 #[.val (.int p0)] [(.int p0), (.int (65 : Int32))]))
    refine own_via (fun t k => XS.iadd X0.here hx rfl (hb hby d1_16) rfl k) ?_
    show OwnEnds p.tables e below _ (s₁.setTop (mkF m 17 #[.val (.int p0)] [(.int ((65 : Int32) + p0))]))
    refine own_via (fun t k => XS.bipush X0.here hx rfl (hb hby d1_17) k) ?_
    show OwnEnds p.tables e below _ (s₁.setTop (mkF m 19 #[.val (.int p0)] [(.int (10 : Int32)), (.int ((65 : Int32) + p0))]))
    refine own_via (fun t k => XS.isub X0.here hx rfl (hb hby d1_19) rfl k) ?_
    show OwnEnds p.tables e below _ (s₁.setTop (mkF m 20 #[.val (.int p0)] [(.int (((65 : Int32) + p0) - (10 : Int32)))]))
    refine own_via (fun t k => XS.i2c X0.here hx rfl (hb hby d1_20) rfl k) ?_
    show OwnEnds p.tables e below _ (s₁.setTop (mkF m 21 #[.val (.int p0)] [(.int ((((65 : Int32) + p0) - (10 : Int32)).toUInt32.toUInt16.toUInt32.toInt32))]))
    refine own_retN (t := .char) X0 hx Bd.returns (by simp) hlk (hb hby d1_21) ?_ (by decide) (by decide)
    rw [e0]
    exact ⟨congrArg (fun z => some (Value.int z)) (show nar .char ((((65 : Int32) + p0) - (10 : Int32)).toUInt32.toUInt16.toUInt32.toInt32) = own_dig p0 by unfold own_dig; rw [if_neg hc3_1]), N0, rfl⟩
theorem d7_0 : decode prog_4_method_4_code 0 = .ok (.iload_n 0, 1) := by decide +kernel
theorem d7_1 : decode prog_4_method_4_code 1 = .ok (.bipush 48, 2) := by decide +kernel
theorem d7_3 : decode prog_4_method_4_code 3 = .ok (.if_icmp .lt 14, 3) := by decide +kernel
theorem d7_6 : decode prog_4_method_4_code 6 = .ok (.iload_n 0, 1) := by decide +kernel
theorem d7_7 : decode prog_4_method_4_code 7 = .ok (.bipush 57, 2) := by decide +kernel
theorem d7_9 : decode prog_4_method_4_code 9 = .ok (.if_icmp .gt 8, 3) := by decide +kernel
theorem d7_12 : decode prog_4_method_4_code 12 = .ok (.iload_n 0, 1) := by decide +kernel
theorem d7_13 : decode prog_4_method_4_code 13 = .ok (.bipush 48, 2) := by decide +kernel
theorem d7_15 : decode prog_4_method_4_code 15 = .ok (.isub, 1) := by decide +kernel
theorem d7_16 : decode prog_4_method_4_code 16 = .ok (.ireturn, 1) := by decide +kernel
theorem d7_17 : decode prog_4_method_4_code 17 = .ok (.iload_n 0, 1) := by decide +kernel
theorem d7_18 : decode prog_4_method_4_code 18 = .ok (.bipush 65, 2) := by decide +kernel
theorem d7_20 : decode prog_4_method_4_code 20 = .ok (.if_icmp .lt 17, 3) := by decide +kernel
theorem d7_23 : decode prog_4_method_4_code 23 = .ok (.iload_n 0, 1) := by decide +kernel
theorem d7_24 : decode prog_4_method_4_code 24 = .ok (.bipush 70, 2) := by decide +kernel
theorem d7_26 : decode prog_4_method_4_code 26 = .ok (.if_icmp .gt 11, 3) := by decide +kernel
theorem d7_29 : decode prog_4_method_4_code 29 = .ok (.iload_n 0, 1) := by decide +kernel
theorem d7_30 : decode prog_4_method_4_code 30 = .ok (.bipush 65, 2) := by decide +kernel
theorem d7_32 : decode prog_4_method_4_code 32 = .ok (.isub, 1) := by decide +kernel
theorem d7_33 : decode prog_4_method_4_code 33 = .ok (.bipush 10, 2) := by decide +kernel
theorem d7_35 : decode prog_4_method_4_code 35 = .ok (.iadd, 1) := by decide +kernel
theorem d7_36 : decode prog_4_method_4_code 36 = .ok (.ireturn, 1) := by decide +kernel
theorem d7_37 : decode prog_4_method_4_code 37 = .ok (.iconst (-1), 1) := by decide +kernel
theorem d7_38 : decode prog_4_method_4_code 38 = .ok (.ireturn, 1) := by decide +kernel
theorem ef_7 (m : MethodId) (p0 : Int32) : entryFrame m #[(.int p0)] 1 = mkF m 0 #[.val (.int p0)] [] := by first | (simp [entryFrame, mkF, argsToLocals, Value.category]; done) | rfl
def Q7 (Z : State) (p0 : Int32) (h0 : Heap) (n0 : Nat) (v : Option Value) (h : Heap) (L : List Loc) : Prop := v = some (.int (own_val p0)) ∧ Fr n0 L ∧ h = h0
set_option maxRecDepth 65536 in
set_option maxHeartbeats 40000000 in
theorem rm7 (l : Launch) (Z : State) (aw : Array Value) (hw : ∀ d ∈ tables_1, d.before aw Z = true) (ws : List Jvm.Cond) (p0 : Int32) (h0 : Heap) (n0 : Nat) (Z0 : n0 ≤ h0.size) :
    MetFree l (⟨"com/example/shelfmark/shelfmark/Digits", "value", "(C)I"⟩ : MethodName) (head1 (Jvm.Cond.code (⟨"com/example/shelfmark/shelfmark/Digits", "value", "(C)I"⟩ : MethodName) prog_4_method_4_code 1 (some .int) :: ws) ({ frames := 0, cells := 0, slots := 0, locals := 0 } : Room)) (fun a U => a = #[(.int p0)] ∧ Z.Warmed39 U.vm ∧ U.heap = h0) (fun _ _ _ _ _ => True) (fun _ U o U' => ∃ v L, o = .returned v ∧ Q7 Z p0 h0 n0 v U'.heap L ∧ FrameEnd U o U' L ({ frames := 0, cells := 0, slots := 0, locals := 0 } : Room).cells ({ frames := 0, cells := 0, slots := 0, locals := 0 } : Room).slots) := by
  refine MetFree.of_bodySF (plainFor_of_name pn_3) hisR ?_
  intro p e s m args below meth c s₁ Bd hml0 hP hK
  obtain ⟨rfl, hZ, hh⟩ := hP
  have hx := Bd.exec
  have hby := Bd.bytes
  have hml : c.maxLocals = 1 := hml0
  have hown : s.vm.findClass "com/example/shelfmark/shelfmark/Digits" = some m.cls := findClass_of_methodNamed Bd.named
  have hnm := (name_of_methodNamed Bd.named Bd.method).1
  have hlk : meth.locks = false := Bd.notSynchronized
  have X0 : Stand p l e ({ frames := 0, cells := 0, slots := 0, locals := 0 } : Room) s m #[(.int p0)] below meth c s₁ [] 0 0 := Stand.of_body Bd
  have e0 : s₁.heap = h0 := by rw [← hh, Bd.state]; rfl
  have N0 := Fr.nil n0
  show OwnEnds p.tables e below (OwnQ s ({ frames := 0, cells := 0, slots := 0, locals := 0 } : Room).cells ({ frames := 0, cells := 0, slots := 0, locals := 0 } : Room).slots (Q7 Z p0 h0 n0)) (s₁.setTop (entryFrame m #[(.int p0)] 1))
  refine own_via (fun t k => castTop (ef_7 m p0) k) ?_
  show OwnEnds p.tables e below _ (s₁.setTop (mkF m 0 #[.val (.int p0)] []))
  refine own_via (fun t k => XS.iloadN X0.here hx rfl (hb hby d7_0) rfl k) ?_
  show OwnEnds p.tables e below _ (s₁.setTop (mkF m 1 #[.val (.int p0)] [(.int p0)]))
  refine own_via (fun t k => XS.bipush X0.here hx rfl (hb hby d7_1) k) ?_
  show OwnEnds p.tables e below _ (s₁.setTop (mkF m 3 #[.val (.int p0)] [(.int (48 : Int32)), (.int p0)]))
  by_cases hc3_1 : p0 < (48 : Int32)
  · skip
    refine own_via (fun t k => XS.icmpYes X0.here hx rfl (pc0 := 3) (pc' := 17) rfl (hb hby d7_3) rfl (tlt hc3_1).1 (by decide) (by decide) k) ?_
    show OwnEnds p.tables e below _ (s₁.setTop (mkF m 17 #[.val (.int p0)] []))
    refine own_via (fun t k => XS.iloadN X0.here hx rfl (hb hby d7_17) rfl k) ?_
    show OwnEnds p.tables e below _ (s₁.setTop (mkF m 18 #[.val (.int p0)] [(.int p0)]))
    refine own_via (fun t k => XS.bipush X0.here hx rfl (hb hby d7_18) k) ?_
    show OwnEnds p.tables e below _ (s₁.setTop (mkF m 20 #[.val (.int p0)] [(.int (65 : Int32)), (.int p0)]))
    by_cases hc20_2 : p0 < (65 : Int32)
    · skip
      refine own_via (fun t k => XS.icmpYes X0.here hx rfl (pc0 := 20) (pc' := 37) rfl (hb hby d7_20) rfl (tlt hc20_2).1 (by decide) (by decide) k) ?_
      show OwnEnds p.tables e below _ (s₁.setTop (mkF m 37 #[.val (.int p0)] []))
      refine own_via (fun t k => XS.iconst X0.here hx rfl (hb hby d7_37) k) ?_
      show OwnEnds p.tables e below _ (s₁.setTop (mkF m 38 #[.val (.int p0)] [(.int (-1 : Int32))]))
      refine own_retI X0 hx Bd.returns hlk (hb hby d7_38) ?_ (by decide) (by decide)
      rw [e0]
      exact ⟨congrArg (fun z => some (Value.int z)) (show (-1 : Int32) = own_val p0 by simp only [own_val, if_pos hc3_1, if_pos hc20_2]), N0, rfl⟩
    · skip
      refine own_via (fun t k => XS.icmpNo X0.here hx rfl (hb hby d7_20) rfl (flt hc20_2).1 k) ?_
      show OwnEnds p.tables e below _ (s₁.setTop (mkF m 23 #[.val (.int p0)] []))
      refine own_via (fun t k => XS.iloadN X0.here hx rfl (hb hby d7_23) rfl k) ?_
      show OwnEnds p.tables e below _ (s₁.setTop (mkF m 24 #[.val (.int p0)] [(.int p0)]))
      refine own_via (fun t k => XS.bipush X0.here hx rfl (hb hby d7_24) k) ?_
      show OwnEnds p.tables e below _ (s₁.setTop (mkF m 26 #[.val (.int p0)] [(.int (70 : Int32)), (.int p0)]))
      by_cases hc26_3 : (70 : Int32) < p0
      · skip
        refine own_via (fun t k => XS.icmpYes X0.here hx rfl (pc0 := 26) (pc' := 37) rfl (hb hby d7_26) rfl (tlt hc26_3).2.2.1 (by decide) (by decide) k) ?_
        show OwnEnds p.tables e below _ (s₁.setTop (mkF m 37 #[.val (.int p0)] []))
        refine own_via (fun t k => XS.iconst X0.here hx rfl (hb hby d7_37) k) ?_
        show OwnEnds p.tables e below _ (s₁.setTop (mkF m 38 #[.val (.int p0)] [(.int (-1 : Int32))]))
        refine own_retI X0 hx Bd.returns hlk (hb hby d7_38) ?_ (by decide) (by decide)
        rw [e0]
        exact ⟨congrArg (fun z => some (Value.int z)) (show (-1 : Int32) = own_val p0 by simp only [own_val, if_pos hc3_1, if_neg hc20_2, if_pos hc26_3]), N0, rfl⟩
      · skip
        refine own_via (fun t k => XS.icmpNo X0.here hx rfl (hb hby d7_26) rfl (flt hc26_3).2.2.1 k) ?_
        show OwnEnds p.tables e below _ (s₁.setTop (mkF m 29 #[.val (.int p0)] []))
        refine own_via (fun t k => XS.iloadN X0.here hx rfl (hb hby d7_29) rfl k) ?_
        show OwnEnds p.tables e below _ (s₁.setTop (mkF m 30 #[.val (.int p0)] [(.int p0)]))
        refine own_via (fun t k => XS.bipush X0.here hx rfl (hb hby d7_30) k) ?_
        show OwnEnds p.tables e below _ (s₁.setTop (mkF m 32 #[.val (.int p0)] [(.int (65 : Int32)), (.int p0)]))
        refine own_via (fun t k => XS.isub X0.here hx rfl (hb hby d7_32) rfl k) ?_
        show OwnEnds p.tables e below _ (s₁.setTop (mkF m 33 #[.val (.int p0)] [(.int (p0 - (65 : Int32)))]))
        refine own_via (fun t k => XS.bipush X0.here hx rfl (hb hby d7_33) k) ?_
        show OwnEnds p.tables e below _ (s₁.setTop (mkF m 35 #[.val (.int p0)] [(.int (10 : Int32)), (.int (p0 - (65 : Int32)))]))
        refine own_via (fun t k => XS.iadd X0.here hx rfl (hb hby d7_35) rfl k) ?_
        show OwnEnds p.tables e below _ (s₁.setTop (mkF m 36 #[.val (.int p0)] [(.int ((p0 - (65 : Int32)) + (10 : Int32)))]))
        refine own_retI X0 hx Bd.returns hlk (hb hby d7_36) ?_ (by decide) (by decide)
        rw [e0]
        exact ⟨congrArg (fun z => some (Value.int z)) (show ((p0 - (65 : Int32)) + (10 : Int32)) = own_val p0 by simp only [own_val, if_pos hc3_1, if_neg hc20_2, if_neg hc26_3]), N0, rfl⟩
  · skip
    refine own_via (fun t k => XS.icmpNo X0.here hx rfl (hb hby d7_3) rfl (flt hc3_1).1 k) ?_
    show OwnEnds p.tables e below _ (s₁.setTop (mkF m 6 #[.val (.int p0)] []))
    refine own_via (fun t k => XS.iloadN X0.here hx rfl (hb hby d7_6) rfl k) ?_
    show OwnEnds p.tables e below _ (s₁.setTop (mkF m 7 #[.val (.int p0)] [(.int p0)]))
    refine own_via (fun t k => XS.bipush X0.here hx rfl (hb hby d7_7) k) ?_
    show OwnEnds p.tables e below _ (s₁.setTop (mkF m 9 #[.val (.int p0)] [(.int (57 : Int32)), (.int p0)]))
    by_cases hc9_4 : (57 : Int32) < p0
    · skip
      refine own_via (fun t k => XS.icmpYes X0.here hx rfl (pc0 := 9) (pc' := 17) rfl (hb hby d7_9) rfl (tlt hc9_4).2.2.1 (by decide) (by decide) k) ?_
      show OwnEnds p.tables e below _ (s₁.setTop (mkF m 17 #[.val (.int p0)] []))
      refine own_via (fun t k => XS.iloadN X0.here hx rfl (hb hby d7_17) rfl k) ?_
      show OwnEnds p.tables e below _ (s₁.setTop (mkF m 18 #[.val (.int p0)] [(.int p0)]))
      refine own_via (fun t k => XS.bipush X0.here hx rfl (hb hby d7_18) k) ?_
      show OwnEnds p.tables e below _ (s₁.setTop (mkF m 20 #[.val (.int p0)] [(.int (65 : Int32)), (.int p0)]))
      by_cases hc20_5 : p0 < (65 : Int32)
      · skip
        refine own_via (fun t k => XS.icmpYes X0.here hx rfl (pc0 := 20) (pc' := 37) rfl (hb hby d7_20) rfl (tlt hc20_5).1 (by decide) (by decide) k) ?_
        show OwnEnds p.tables e below _ (s₁.setTop (mkF m 37 #[.val (.int p0)] []))
        refine own_via (fun t k => XS.iconst X0.here hx rfl (hb hby d7_37) k) ?_
        show OwnEnds p.tables e below _ (s₁.setTop (mkF m 38 #[.val (.int p0)] [(.int (-1 : Int32))]))
        refine own_retI X0 hx Bd.returns hlk (hb hby d7_38) ?_ (by decide) (by decide)
        rw [e0]
        exact ⟨congrArg (fun z => some (Value.int z)) (show (-1 : Int32) = own_val p0 by simp only [own_val, if_neg hc3_1, if_pos hc9_4, if_pos hc20_5]), N0, rfl⟩
      · skip
        refine own_via (fun t k => XS.icmpNo X0.here hx rfl (hb hby d7_20) rfl (flt hc20_5).1 k) ?_
        show OwnEnds p.tables e below _ (s₁.setTop (mkF m 23 #[.val (.int p0)] []))
        refine own_via (fun t k => XS.iloadN X0.here hx rfl (hb hby d7_23) rfl k) ?_
        show OwnEnds p.tables e below _ (s₁.setTop (mkF m 24 #[.val (.int p0)] [(.int p0)]))
        refine own_via (fun t k => XS.bipush X0.here hx rfl (hb hby d7_24) k) ?_
        show OwnEnds p.tables e below _ (s₁.setTop (mkF m 26 #[.val (.int p0)] [(.int (70 : Int32)), (.int p0)]))
        by_cases hc26_6 : (70 : Int32) < p0
        · skip
          refine own_via (fun t k => XS.icmpYes X0.here hx rfl (pc0 := 26) (pc' := 37) rfl (hb hby d7_26) rfl (tlt hc26_6).2.2.1 (by decide) (by decide) k) ?_
          show OwnEnds p.tables e below _ (s₁.setTop (mkF m 37 #[.val (.int p0)] []))
          refine own_via (fun t k => XS.iconst X0.here hx rfl (hb hby d7_37) k) ?_
          show OwnEnds p.tables e below _ (s₁.setTop (mkF m 38 #[.val (.int p0)] [(.int (-1 : Int32))]))
          refine own_retI X0 hx Bd.returns hlk (hb hby d7_38) ?_ (by decide) (by decide)
          rw [e0]
          exact ⟨congrArg (fun z => some (Value.int z)) (show (-1 : Int32) = own_val p0 by simp only [own_val, if_neg hc3_1, if_pos hc9_4, if_neg hc20_5, if_pos hc26_6]), N0, rfl⟩
        · skip
          refine own_via (fun t k => XS.icmpNo X0.here hx rfl (hb hby d7_26) rfl (flt hc26_6).2.2.1 k) ?_
          show OwnEnds p.tables e below _ (s₁.setTop (mkF m 29 #[.val (.int p0)] []))
          refine own_via (fun t k => XS.iloadN X0.here hx rfl (hb hby d7_29) rfl k) ?_
          show OwnEnds p.tables e below _ (s₁.setTop (mkF m 30 #[.val (.int p0)] [(.int p0)]))
          refine own_via (fun t k => XS.bipush X0.here hx rfl (hb hby d7_30) k) ?_
          show OwnEnds p.tables e below _ (s₁.setTop (mkF m 32 #[.val (.int p0)] [(.int (65 : Int32)), (.int p0)]))
          refine own_via (fun t k => XS.isub X0.here hx rfl (hb hby d7_32) rfl k) ?_
          show OwnEnds p.tables e below _ (s₁.setTop (mkF m 33 #[.val (.int p0)] [(.int (p0 - (65 : Int32)))]))
          refine own_via (fun t k => XS.bipush X0.here hx rfl (hb hby d7_33) k) ?_
          show OwnEnds p.tables e below _ (s₁.setTop (mkF m 35 #[.val (.int p0)] [(.int (10 : Int32)), (.int (p0 - (65 : Int32)))]))
          refine own_via (fun t k => XS.iadd X0.here hx rfl (hb hby d7_35) rfl k) ?_
          show OwnEnds p.tables e below _ (s₁.setTop (mkF m 36 #[.val (.int p0)] [(.int ((p0 - (65 : Int32)) + (10 : Int32)))]))
          refine own_retI X0 hx Bd.returns hlk (hb hby d7_36) ?_ (by decide) (by decide)
          rw [e0]
          exact ⟨congrArg (fun z => some (Value.int z)) (show ((p0 - (65 : Int32)) + (10 : Int32)) = own_val p0 by simp only [own_val, if_neg hc3_1, if_pos hc9_4, if_neg hc20_5, if_neg hc26_6]), N0, rfl⟩
    · skip
      refine own_via (fun t k => XS.icmpNo X0.here hx rfl (hb hby d7_9) rfl (flt hc9_4).2.2.1 k) ?_
      show OwnEnds p.tables e below _ (s₁.setTop (mkF m 12 #[.val (.int p0)] []))
      refine own_via (fun t k => XS.iloadN X0.here hx rfl (hb hby d7_12) rfl k) ?_
      show OwnEnds p.tables e below _ (s₁.setTop (mkF m 13 #[.val (.int p0)] [(.int p0)]))
      refine own_via (fun t k => XS.bipush X0.here hx rfl (hb hby d7_13) k) ?_
      show OwnEnds p.tables e below _ (s₁.setTop (mkF m 15 #[.val (.int p0)] [(.int (48 : Int32)), (.int p0)]))
      refine own_via (fun t k => XS.isub X0.here hx rfl (hb hby d7_15) rfl k) ?_
      show OwnEnds p.tables e below _ (s₁.setTop (mkF m 16 #[.val (.int p0)] [(.int (p0 - (48 : Int32)))]))
      refine own_retI X0 hx Bd.returns hlk (hb hby d7_16) ?_ (by decide) (by decide)
      rw [e0]
      exact ⟨congrArg (fun z => some (Value.int z)) (show (p0 - (48 : Int32)) = own_val p0 by simp only [own_val, if_neg hc3_1, if_neg hc9_4]), N0, rfl⟩
theorem pn_4 : plainName "com/example/shelfmark/shelfmark/DigitsDigitPinLaw" = true := by first | (simp [plainName, overriddenIn]; done) | decide +kernel
theorem ef_0 (m : MethodId) (p0 : Int32) : entryFrame m #[(.int p0)] maxLocals = mkF m 0 #[.val (.int p0), .unset, .unset, .unset, .unset] [] := by first | (simp [entryFrame, mkF, argsToLocals, Value.category, maxLocals]; done) | rfl
def Q0 (Z : State) (p0 : Int32) (cs : Int32) (fm : Value) (h0 : Heap) (n0 : Nat) (v : Option Value) (h : Heap) (L : List Loc) : Prop := v = some (.int 1) ∧ Fr n0 L
theorem pd_4 : parseMethodDescriptor "(I)C" = some ⟨[.int], some .char⟩ := by decide +kernel
theorem pd_5 : parseMethodDescriptor "(C)I" = some ⟨[.char], some .int⟩ := by decide +kernel
set_option maxRecDepth 65536 in
set_option maxHeartbeats 40000000 in
theorem rm0 (l : Launch) (Z : State) (aw : Array Value) (hw : ∀ d ∈ tables_1, d.before aw Z = true) (ws : List Jvm.Cond) (p0 : Int32) (cs : Int32) (fm : Value) (h0 : Heap) (n0 : Nat) (Z0 : n0 ≤ h0.size) (S_cs : Sta Z Z.heap "java/lang/String" "COMPACT_STRINGS" "Z" (.int cs)) (S_fm : Sta Z Z.heap "jdk/internal/util/Preconditions" "SIOOBE_FORMATTER" "Ljava/util/function/BiFunction;" fm) (hcs : ¬ cs = 0) (hr_fm : fm.isRef = true) (O0 : Old Z n0 h0) (hn0' : n0 = Z.heap.size) (hheld : Jvm.Lit.constHeld Z "com/example/shelfmark/shelfmark/DigitsDigitPinLaw" 13) (hcw : Jvm.Lit.compactW.before aw Z = true) :
    MetFree l x (head1 (Jvm.Cond.code x code maxLocals ret :: ws) room_1) (fun a U => a = #[(.int p0)] ∧ U = Z ∧ U.heap = h0) (fun _ _ _ _ _ => True) (fun _ U o U' => ∃ v L, o = .returned v ∧ Q0 Z p0 cs fm h0 n0 v U'.heap L ∧ ReturnedEndW U o U' L 8 1088) := by
  refine MetFree.of_bodySF (plainFor_of_name pn_4) hisR ?_
  intro p e s m args below meth c s₁ Bd hml0 hP hK
  obtain ⟨rfl, hsZ, hh⟩ := hP
  have hZ : Z.Warmed39 s.vm := by rw [hsZ]; exact State.Warmed39.refl Z
  have hS0 : s.Since s.vm s.heap.size := (State.WarmedH.refl s).since _
  have hI0 : IB Z s.vm [] := by rw [hsZ]; exact IB.start
  have hx := Bd.exec
  have hby := Bd.bytes
  have hml : c.maxLocals = 5 := hml0
  have hown : s.vm.findClass "com/example/shelfmark/shelfmark/DigitsDigitPinLaw" = some m.cls := findClass_of_methodNamed Bd.named
  have hnm := (name_of_methodNamed Bd.named Bd.method).1
  have hlk : meth.locks = false := Bd.notSynchronized
  have X0 : Stand p l e room_1 s m #[(.int p0)] below meth c s₁ [] 0 0 := Stand.of_body Bd
  have e0 : s₁.heap = h0 := by rw [← hh, Bd.state]; rfl
  have N0 := Fr.nil n0
  show OwnEnds p.tables e below (OwnQW s 8 1088 (Q0 Z p0 cs fm h0 n0)) (s₁.setTop (entryFrame m #[(.int p0)] maxLocals))
  have hn0 : n0 = s.heap.size := by rw [hsZ]; exact hn0'
  refine own_via (fun t k => castTop (ef_0 m p0) k) ?_
  show OwnEnds p.tables e below _ (s₁.setTop (mkF m 0 #[.val (.int p0), .unset, .unset, .unset, .unset] []))
  refine own_via (fun t k => XS.iloadN X0.here hx rfl (hb hby at_0) rfl k) ?_
  show OwnEnds p.tables e below _ (s₁.setTop (mkF m 1 #[.val (.int p0), .unset, .unset, .unset, .unset] [(.int p0)]))
  refine own_via (fun t k => XS.bipush X0.here hx rfl (hb hby at_1) k) ?_
  show OwnEnds p.tables e below _ (s₁.setTop (mkF m 3 #[.val (.int p0), .unset, .unset, .unset, .unset] [(.int (15 : Int32)), (.int p0)]))
  refine own_via (fun t k => XS.iand X0.here hx rfl (hb hby at_3) rfl k) ?_
  show OwnEnds p.tables e below _ (s₁.setTop (mkF m 4 #[.val (.int p0), .unset, .unset, .unset, .unset] [(.int (p0 &&& (15 : Int32)))]))
  obtain ⟨vv, h_vv⟩ : ∃ z, z = (p0 &&& (15 : Int32)) := ⟨_, rfl⟩
  rw [← h_vv]
  obtain ⟨kb, hkb, hkbi⟩ := own_k p0
  rw [← h_vv] at hkb hkbi
  refine own_via (fun t k => XS.istoreN X0.here hx rfl (hb hby at_4) rfl (l' := #[.val (.int p0), .val (.int vv), .unset, .unset, .unset]) rfl k) ?_
  show OwnEnds p.tables e below _ (s₁.setTop (mkF m 5 #[.val (.int p0), .val (.int vv), .unset, .unset, .unset] []))
  refine own_via (fun t k => XS.iloadN X0.here hx rfl (hb hby at_5) rfl k) ?_
  show OwnEnds p.tables e below _ (s₁.setTop (mkF m 6 #[.val (.int p0), .val (.int vv), .unset, .unset, .unset] [(.int vv)]))
  obtain ⟨_, _, ⟨T1, L1, k1, n1⟩, -, X1, ⟨Lc1, hQ1, l1, y1, z1⟩, st1⟩ := Jvm.LawKit.callS X0 hx (y := (⟨"com/example/shelfmark/shelfmark/Digits", "digit", "(I)C"⟩ : MethodName)) hown (mvT hZ (hw _ (List.mem_of_getElem? (i := 0) rfl))) (mvT hZ (hw _ (List.mem_of_getElem? (i := 1) rfl))) (mvT hZ (hw _ (List.mem_of_getElem? (i := 2) rfl))) (mvT hZ (hw _ (List.mem_of_getElem? (i := 3) rfl))) (by decide) (backOf (W := 0) (rm1 l Z aw hw [] vv h0 n0 Z0 ) hZ (hw _ (List.mem_of_getElem? (i := 3) rfl)) (hw _ (List.mem_of_getElem? (i := 2) rfl)) (by decide) (by decide)) (g := (mkF m 6 #[.val (.int p0), .val (.int vv), .unset, .unset, .unset] [(.int vv)])) rfl (by rw [hml]; rfl) (argsL := [(.int vv)]) (rest := []) (lenOf pd_4 rfl) rfl (by show 2 * 0 + _ ≤ _; exact Nat.le_of_eq rfl) (hb hby at_6) (fun _ _ => ⟨rfl, e0, (by decide : 0 + 0 ≤ _), (by decide : 0 + 0 ≤ _)⟩)
  dsimp only [Pt.U, Pt.locs, Pt.cells, Pt.slots] at X1 l1 y1 z1 st1 hQ1
  subst l1 y1 z1
  obtain ⟨rfl, Nq1, e1⟩ := hQ1
  have N1 := Fr.app N0 Nq1
  replace e1 : T1.heap = h0 := e1
  refine own_via st1 ?_
  show OwnEnds p.tables e below _ (T1.setTop (mkF m 9 #[.val (.int p0), .val (.int vv), .unset, .unset, .unset] [(.int (own_dig vv))]))
  refine own_via (fun t k => XS.istoreN X1.here hx rfl (hb hby at_9) rfl (l' := #[.val (.int p0), .val (.int vv), .val (.int (own_dig vv)), .unset, .unset]) rfl k) ?_
  show OwnEnds p.tables e below _ (T1.setTop (mkF m 10 #[.val (.int p0), .val (.int vv), .val (.int (own_dig vv)), .unset, .unset] []))
  refine own_via (fun t k => XS.iloadN X1.here hx rfl (hb hby at_10) rfl k) ?_
  show OwnEnds p.tables e below _ (T1.setTop (mkF m 11 #[.val (.int p0), .val (.int vv), .val (.int (own_dig vv)), .unset, .unset] [(.int (own_dig vv))]))
  have wS2 : ∀ a ∈ Bundle.stringAtoms, a.before aw Z = true := by
    intro d hd
    simp only [Bundle.stringAtoms, List.mem_cons, List.not_mem_nil, or_false] at hd
    rcases hd with rfl | rfl | rfl | rfl | rfl | rfl | rfl
    · exact (hw _ (List.mem_of_getElem? (i := 5) rfl))
    · exact (hw _ (List.mem_of_getElem? (i := 6) rfl))
    · exact (hw _ (List.mem_of_getElem? (i := 7) rfl))
    · exact (hw _ (List.mem_of_getElem? (i := 8) rfl))
    · exact (hw _ (List.mem_of_getElem? (i := 9) rfl))
    · exact (hw _ (List.mem_of_getElem? (i := 10) rfl))
    · exact (hw _ (List.mem_of_getElem? (i := 11) rfl))
  obtain ⟨st2', T2, h2, k2, sb2, cb2, X2, e2, E2, hSL, hkL, hZ2, hown2, A2, FC2, FV2, V2, -, -, -, st2⟩ := ldcSV (s := s) (vm0 := s.vm) X1 hx hZ hown (hw _ (List.mem_of_getElem? (i := 4) rfl)) wS2 e1 hS0 (by rw [hh]; exact Nat.le_refl _) (hn0 ▸ N1) (fun b cl q => by rw [hsZ]; exact q) hI0 (by simp) hheld hcw (vs := [(.int (48 : Int32)), (.int (49 : Int32)), (.int (50 : Int32)), (.int (51 : Int32)), (.int (52 : Int32)), (.int (53 : Int32)), (.int (54 : Int32)), (.int (55 : Int32)), (.int (56 : Int32)), (.int (57 : Int32)), (.int (65 : Int32)), (.int (66 : Int32)), (.int (67 : Int32)), (.int (68 : Int32)), (.int (69 : Int32)), (.int (70 : Int32))]) (z := (16 : Int32)) ⟨by decide +kernel, by decide +kernel⟩ (by decide) rfl (g := (mkF m 11 #[.val (.int p0), .val (.int vv), .val (.int (own_dig vv)), .unset, .unset] [(.int (own_dig vv))])) rfl (hb hby at_11) (n := 64) (by decide +kernel) (by decide) (by decide) (by decide)
  have hZ := hZ2
  have hown := hown2
  have A_sb2 := AL.ofArv V2 rfl
  replace O0 := O0.ext E2
  have Zs_2 : n0 ≤ _ := Nat.le_trans Z0 E2.1
  refine own_via st2 ?_
  show OwnEnds p.tables e below _ (T2.setTop (mkF m 13 #[.val (.int p0), .val (.int vv), .val (.int (own_dig vv)), .unset, .unset] [(.ref st2'), (.int (own_dig vv))]))
  refine own_via (fun t k => XS.iloadN X2.here hx rfl (hb hby at_13) rfl k) ?_
  show OwnEnds p.tables e below _ (T2.setTop (mkF m 14 #[.val (.int p0), .val (.int vv), .val (.int (own_dig vv)), .unset, .unset] [(.int vv), (.ref st2'), (.int (own_dig vv))]))
  obtain ⟨cq3, kq3, q3a, q3b, q3c⟩ := isOf hZ e2 A2
  obtain ⟨_, _, ⟨T3, L3, k3, n3⟩, -, X3, ⟨Lc3, hQ3, l3, y3, z3⟩, st3⟩ := X2.virtualBack hx (y := (⟨"java/lang/String", "charAt", "(I)C"⟩ : MethodName)) (z := (⟨"java/lang/String", "charAt", "(I)C"⟩ : MethodName)) hown (mvT hZ (hw _ (List.mem_of_getElem? (i := 12) rfl))) (mvT hZ (hw _ (List.mem_of_getElem? (i := 13) rfl))) (notFace_of_selects (args := #[]) (mvT hZ (hw _ (List.mem_of_getElem? (i := 15) rfl)))) (mvT hZ (hw _ (List.mem_of_getElem? (i := 15) rfl))) (mvT hZ (hw _ (List.mem_of_getElem? (i := 14) rfl))) (by decide) (backOf (W := 1) (rm2 l Z aw hw [] st2' vv sb2 [(.int (48 : Int32)), (.int (49 : Int32)), (.int (50 : Int32)), (.int (51 : Int32)), (.int (52 : Int32)), (.int (53 : Int32)), (.int (54 : Int32)), (.int (55 : Int32)), (.int (56 : Int32)), (.int (57 : Int32)), (.int (65 : Int32)), (.int (66 : Int32)), (.int (67 : Int32)), (.int (68 : Int32)), (.int (69 : Int32)), (.int (70 : Int32))] (16 : Int32) kb.val (own_dg kb.val) cs fm h2 n0 Zs_2 A2 FC2 FV2 A_sb2 S_cs S_fm hcs hr_fm O0 rfl hkbi (own_tab kb)) hZ (hw _ (List.mem_of_getElem? (i := 16) rfl)) (hw _ (List.mem_of_getElem? (i := 5) rfl)) (by decide) (by decide)) q3a q3c (g := (mkF m 14 #[.val (.int p0), .val (.int vv), .val (.int (own_dig vv)), .unset, .unset] [(.int vv), (.ref st2'), (.int (own_dig vv))])) rfl (by rw [hml]; rfl) (Steps.refl _) (argsL := [(.int vv)]) (rest := [(.int (own_dig vv))]) (lenOf pd_4 rfl) rfl (by show 2 * 0 + _ ≤ _; exact Nat.le_of_eq rfl) (hb hby at_14) (fun _ _ => ⟨rfl, e2, (by decide : 2 + 0 ≤ _), (by decide : 68 + 0 ≤ _)⟩)
  dsimp only [Pt.U, Pt.locs, Pt.cells, Pt.slots] at X3 l3 y3 z3 st3 hQ3
  subst l3 y3 z3
  obtain ⟨rfl, Nq3, e3⟩ := hQ3
  have N3 := Fr.app N1 Nq3
  replace e3 : T3.heap = h2 := e3
  refine own_of st3 ?_
  show OwnEnds p.tables e below _ (T3.setTop (mkF m 17 #[.val (.int p0), .val (.int vv), .val (.int (own_dig vv)), .unset, .unset] [(.int (nar .char (own_c8 (own_dg kb.val)))), (.int (own_dig vv))]))
  have hc17_4 : (own_dig vv) = (nar .char (own_c8 (own_dg kb.val))) := by rw [hkb, own_chr]; exact own_dd kb
  refine own_via (fun t k => XS.icmpNo X3.here hx rfl (hb hby at_17) rfl (teq hc17_4).2 k) ?_
  show OwnEnds p.tables e below _ (T3.setTop (mkF m 20 #[.val (.int p0), .val (.int vv), .val (.int (own_dig vv)), .unset, .unset] []))
  refine own_via (fun t k => XS.iconst X3.here hx rfl (hb hby at_20) k) ?_
  show OwnEnds p.tables e below _ (T3.setTop (mkF m 21 #[.val (.int p0), .val (.int vv), .val (.int (own_dig vv)), .unset, .unset] [(.int (1 : Int32))]))
  refine own_via (fun t k => XS.goto X3.here hx rfl (pc0 := 21) (pc' := 25) rfl (hb hby at_21) (by decide) (by decide) k) ?_
  show OwnEnds p.tables e below _ (T3.setTop (mkF m 25 #[.val (.int p0), .val (.int vv), .val (.int (own_dig vv)), .unset, .unset] [(.int (1 : Int32))]))
  refine own_via (fun t k => XS.istoreN X3.here hx rfl (hb hby at_25) rfl (l' := #[.val (.int p0), .val (.int vv), .val (.int (own_dig vv)), .val (.int (1 : Int32)), .unset]) rfl k) ?_
  show OwnEnds p.tables e below _ (T3.setTop (mkF m 26 #[.val (.int p0), .val (.int vv), .val (.int (own_dig vv)), .val (.int (1 : Int32)), .unset] []))
  refine own_via (fun t k => XS.iloadN X3.here hx rfl (hb hby at_26) rfl k) ?_
  show OwnEnds p.tables e below _ (T3.setTop (mkF m 27 #[.val (.int p0), .val (.int vv), .val (.int (own_dig vv)), .val (.int (1 : Int32)), .unset] [(.int (own_dig vv))]))
  obtain ⟨_, _, ⟨T5, L5, k5, n5⟩, -, X5, ⟨Lc5, hQ5, l5, y5, z5⟩, st5⟩ := Jvm.LawKit.callS X3 hx (y := (⟨"com/example/shelfmark/shelfmark/Digits", "value", "(C)I"⟩ : MethodName)) hown (mvT hZ (hw _ (List.mem_of_getElem? (i := 37) rfl))) (mvT hZ (hw _ (List.mem_of_getElem? (i := 38) rfl))) (mvT hZ (hw _ (List.mem_of_getElem? (i := 2) rfl))) (mvT hZ (hw _ (List.mem_of_getElem? (i := 39) rfl))) (by decide) (backOf (W := 0) (rm7 l Z aw hw [] (own_dig vv) h2 n0 Zs_2 ) hZ (hw _ (List.mem_of_getElem? (i := 39) rfl)) (hw _ (List.mem_of_getElem? (i := 2) rfl)) (by decide) (by decide)) (g := (mkF m 27 #[.val (.int p0), .val (.int vv), .val (.int (own_dig vv)), .val (.int (1 : Int32)), .unset] [(.int (own_dig vv))])) rfl (by rw [hml]; rfl) (argsL := [(.int (own_dig vv))]) (rest := []) (lenOf pd_5 rfl) rfl (by show 2 * 0 + _ ≤ _; exact Nat.le_of_eq rfl) (hb hby at_27) (fun _ _ => ⟨rfl, e3, (by decide : 2 + 0 ≤ _), (by decide : 68 + 0 ≤ _)⟩)
  dsimp only [Pt.U, Pt.locs, Pt.cells, Pt.slots] at X5 l5 y5 z5 st5 hQ5
  subst l5 y5 z5
  obtain ⟨rfl, Nq5, e5⟩ := hQ5
  have N5 := Fr.app N3 Nq5
  replace e5 : T5.heap = h2 := e5
  refine own_via st5 ?_
  show OwnEnds p.tables e below _ (T5.setTop (mkF m 30 #[.val (.int p0), .val (.int vv), .val (.int (own_dig vv)), .val (.int (1 : Int32)), .unset] [(.int (own_val (own_dig vv)))]))
  refine own_via (fun t k => XS.iloadN X5.here hx rfl (hb hby at_30) rfl k) ?_
  show OwnEnds p.tables e below _ (T5.setTop (mkF m 31 #[.val (.int p0), .val (.int vv), .val (.int (own_dig vv)), .val (.int (1 : Int32)), .unset] [(.int vv), (.int (own_val (own_dig vv)))]))
  have hc31_6 : (own_val (own_dig vv)) = vv := by rw [hkb, own_dd, own_cmp]
  refine own_via (fun t k => XS.icmpNo X5.here hx rfl (hb hby at_31) rfl (teq hc31_6).2 k) ?_
  show OwnEnds p.tables e below _ (T5.setTop (mkF m 34 #[.val (.int p0), .val (.int vv), .val (.int (own_dig vv)), .val (.int (1 : Int32)), .unset] []))
  refine own_via (fun t k => XS.iconst X5.here hx rfl (hb hby at_34) k) ?_
  show OwnEnds p.tables e below _ (T5.setTop (mkF m 35 #[.val (.int p0), .val (.int vv), .val (.int (own_dig vv)), .val (.int (1 : Int32)), .unset] [(.int (1 : Int32))]))
  refine own_via (fun t k => XS.goto X5.here hx rfl (pc0 := 35) (pc' := 39) rfl (hb hby at_35) (by decide) (by decide) k) ?_
  show OwnEnds p.tables e below _ (T5.setTop (mkF m 39 #[.val (.int p0), .val (.int vv), .val (.int (own_dig vv)), .val (.int (1 : Int32)), .unset] [(.int (1 : Int32))]))
  refine own_via (fun t k => XS.istore X5.here hx rfl (hb hby at_39) rfl (l' := #[.val (.int p0), .val (.int vv), .val (.int (own_dig vv)), .val (.int (1 : Int32)), .val (.int (1 : Int32))]) rfl k) ?_
  show OwnEnds p.tables e below _ (T5.setTop (mkF m 41 #[.val (.int p0), .val (.int vv), .val (.int (own_dig vv)), .val (.int (1 : Int32)), .val (.int (1 : Int32))] []))
  refine own_via (fun t k => XS.iloadN X5.here hx rfl (hb hby at_41) rfl k) ?_
  show OwnEnds p.tables e below _ (T5.setTop (mkF m 42 #[.val (.int p0), .val (.int vv), .val (.int (own_dig vv)), .val (.int (1 : Int32)), .val (.int (1 : Int32))] [(.int (1 : Int32))]))
  have hc42_7 : ¬ ((1 : Int32) = (0 : Int32)) := by decide
  refine own_via (fun t k => XS.ifNo X5.here hx rfl (hb hby at_42) rfl ((if0 _ _).trans (feq hc42_7).1) k) ?_
  show OwnEnds p.tables e below _ (T5.setTop (mkF m 45 #[.val (.int p0), .val (.int vv), .val (.int (own_dig vv)), .val (.int (1 : Int32)), .val (.int (1 : Int32))] []))
  refine own_via (fun t k => XS.iload X5.here hx rfl (hb hby at_45) rfl k) ?_
  show OwnEnds p.tables e below _ (T5.setTop (mkF m 47 #[.val (.int p0), .val (.int vv), .val (.int (own_dig vv)), .val (.int (1 : Int32)), .val (.int (1 : Int32))] [(.int (1 : Int32))]))
  have hc47_8 : ¬ ((1 : Int32) = (0 : Int32)) := by decide
  refine own_via (fun t k => XS.ifNo X5.here hx rfl (hb hby at_47) rfl ((if0 _ _).trans (feq hc47_8).1) k) ?_
  show OwnEnds p.tables e below _ (T5.setTop (mkF m 50 #[.val (.int p0), .val (.int vv), .val (.int (own_dig vv)), .val (.int (1 : Int32)), .val (.int (1 : Int32))] []))
  refine own_via (fun t k => XS.iconst X5.here hx rfl (hb hby at_50) k) ?_
  show OwnEnds p.tables e below _ (T5.setTop (mkF m 51 #[.val (.int p0), .val (.int vv), .val (.int (own_dig vv)), .val (.int (1 : Int32)), .val (.int (1 : Int32))] [(.int (1 : Int32))]))
  refine own_via (fun t k => XS.goto X5.here hx rfl (pc0 := 51) (pc' := 55) rfl (hb hby at_51) (by decide) (by decide) k) ?_
  show OwnEnds p.tables e below _ (T5.setTop (mkF m 55 #[.val (.int p0), .val (.int vv), .val (.int (own_dig vv)), .val (.int (1 : Int32)), .val (.int (1 : Int32))] [(.int (1 : Int32))]))
  refine own_retWN (t := .boolean) X5 hx hSL (by rw [e5]; exact hkL) Bd.returns (by simp) hlk (hb hby at_55) ?_ (by decide) (by decide)
  rw [e5]
  exact ⟨rfl, N5⟩
set_option maxRecDepth 65536 in
set_option maxHeartbeats 40000000 in
theorem comes_1 {Post : Tables → Env → Array Value → State → Outcome → State → Prop} (hpost : ∀ tb e args s v u, (limb_1_1.after args s (.returned v) u = true ∧ limb_1_2.after args s (.returned v) u = true ∧ True) → ReturnedEndW s (.returned v) u (Jvm.fieldLocs frame_1_writes args s ++ Jvm.arrayLocs frame_1_arrays args s ++ Jvm.staticLocs frame_1_statics s) 8 1088 → Post tb e args s (.returned v) u) :
    ArmFor flags0 classFile x code maxLocals ret World_1 tables_1 room_1 Calls_1 rest_1 Pre_1 Post := by
  intro l hfl _ _ p e ha hc hk s m args below hf hA hF happ hP
  obtain ⟨hcalls, hrest, hpre⟩ := hP
  obtain ⟨-, -, -, hnamed, -, -, -, hat⟩ := (Spec.applies_iff hf).mp happ
  obtain ⟨hg, hn⟩ := and_e (Cond.before_iff.mp (show (Jvm.Cond.and given_1 narrow_1).before args s = true from hpre))
  obtain ⟨hq0, hg0⟩ := and_e hg
  obtain ⟨w0, rfl⟩ : ∃ w0 : Value, args = #[w0] := by
    have hs : args.size = 1 := by simpa [Cond.value, given_1] using hq0
    obtain ⟨L⟩ := args
    match L, hs with
    | [w0], _ => exact ⟨w0, rfl⟩
  have hw := fun d (hd : d ∈ tables_1) => atoms_spec (ws := Jvm.Cond.code x code maxLocals ret :: tables_1) hat d (List.mem_cons_of_mem _ hd)
  have hfit : Fit s := fun {y c} hc i hi => by
    obtain ⟨ha, rfl⟩ := Array.getElem?_eq_some_iff.mp hc
    have q := List.all_eq_true.mp ((Array.all_eq_true_iff_forall_mem.mp hF) _ (Array.getElem_mem ha)) i (List.mem_range.mpr hi)
    simpa [Array.getElem?_eq_getElem hi] using q
  obtain ⟨hsets, hown0⟩ := atoms_of _ (rest_1_c_eq ▸ (show rest_1_c.before _ s = true from hrest))
  obtain ⟨i0, ei0⟩ := is_v hg0
  obtain rfl : w0 = (.int i0) := Option.some.inj ei0
  obtain ⟨cs, ecs⟩ := is_v (Cond.before_iff.mp (hsets _ (List.mem_of_getElem? (i := 1) rfl)))
  have S_cs : Sta s s.heap "java/lang/String" "COMPACT_STRINGS" "Z" (.int cs) := Sta.start ecs (Or.inl (hsets _ (List.mem_of_getElem? (i := 0) rfl)))
  have hcs : ¬ cs = 0 := fun q => by
    have := gotF (Cond.eq_ints ecs (Term.int_eval 0)) (not_v (Cond.before_iff.mp (hsets _ (List.mem_of_getElem? (i := 2) rfl))))
    exact this q
  obtain ⟨fm, efm, hr_fm⟩ := isR_v (Cond.before_iff.mp (hsets _ (List.mem_of_getElem? (i := 8) rfl)))
  have S_fm : Sta s s.heap "jdk/internal/util/Preconditions" "SIOOBE_FORMATTER" "Ljava/util/function/BiFunction;" fm := Sta.start efm (Or.inl (hsets _ (List.mem_of_getElem? (i := 7) rfl)))
  obtain ⟨n, o, h1, h2, h3, _, L, rfl, ⟨rfl, N⟩, hq⟩ := rm0 l s _ hw tables_1 i0 cs fm s.heap s.heap.size (Nat.le_refl _) S_cs S_fm hcs hr_fm (Old.start s) rfl (hcalls.1 ("com/example/shelfmark/shelfmark/DigitsDigitPinLaw", 13) (List.mem_singleton.mpr rfl)) (hsets _ (List.mem_of_getElem? (i := 2) rfl)) p e ha hc hk s m _ below hf ((Spec.applies_iff_loose hf).mp happ).1 ⟨rfl, rfl, rfl⟩ trivial
  refine ⟨n, _, h1, h2, h3, hpost _ _ _ _ _ _ ⟨Cond.after_iff.mpr rfl, Cond.after_iff.mpr (eq_i res_at (Term.int_eval (1)) rfl), trivial⟩ ⟨hq.1, hq.2.1, hq.2.2.1, (hq.2.2.2.sift fun y hy => Or.inr (N y hy)).mono (by decide) (by decide)⟩⟩
theorem main_1_1 : Claimed_1_1 := comes_1 fun _ _ _ _ _ _ h hF => ⟨h.1, hF⟩
theorem main_1_2 : Claimed_1_2 := comes_1 fun _ _ _ _ _ _ h hF => ⟨h.2.1, hF⟩
end Jvm.Pilot.@@N@@
namespace Jvm.Pilot.@@N@@
open Jvm Jvm.ClassFile Sem Op Lib Jvm.Free Jvm.Stand Jvm.Pilot.@@N@@.Jvm.D
/-! MADE BY PROGRAM (witnessworld.py) out of the Statement's table words and the real class files: 17 classes; the members and pool entries that the words name. The judged class is class 1, her method 1. -/
namespace start1
open Jvm.ClassFile
def u (s : String) : CpInfo := .utf8 (stringToUtf16 s)
/-- a pool by its gaps: so many unusable entries, then the entry; so many at the end -/
def gap : Nat → List CpInfo → List CpInfo
  | 0, r => r
  | n + 1, r => .unusable :: gap n r
def poolList (es : List (Nat × CpInfo)) (last : Nat) : List CpInfo := es.foldr (fun e r => gap e.1 (e.2 :: r)) (gap last [])
def pool (es : List (Nat × CpInfo)) (last : Nat) : Array CpInfo := ⟨poolList es last⟩
def fileOf (pool : Array CpInfo) (this : Nat) (attrs : Array Attribute := #[]) (ms : Array MethodInfo := #[]) (fl : Nat := 33) (sup : Nat := 0) (ifs : Array Nat := #[]) (fds : Array FieldInfo := #[]) : ClassFile where
  minorVersion := 0
  majorVersion := 65
  constantPool := pool
  accessFlags := fl
  thisClass := this
  superClass := sup
  interfaces := ifs
  fields := fds
  methods := ms
  attributes := attrs
def plain (name : String) (sup : Option ClassId) : Class where
  name := name
  kind := .ordinary
  loader := none
  accessFlags := 33
  super := sup
  interfaces := #[]
  cf := none
  fields := #[]
  methods := #[]
  instanceTypes := #[]
  staticTypes := #[]
  resolved := #[]
  callSites := []
  init := .initialized
  statics := none
  mirror := none

def pool0 : Array CpInfo := pool [(5, u "<init>"), (0, u "()V"), (1, .class_ 10), (1, u "java/lang/Object")] 113

def k0m0 : Method := { name := "<init>", desc := "()V", sig := { parameters := [], returnType := none }, accessFlags := 1, code := none }
/-- java/lang/Object -/
def k0 : Class := { plain "java/lang/Object" none with
  accessFlags := 33
  interfaces := #[]
  cf := some (fileOf pool0 8 #[] #[{ accessFlags := 1, nameIndex := 5, descriptorIndex := 6, attributes := #[] }] 33 0 #[] #[])
  fields := #[]
  methods := #[k0m0]
  instanceTypes := #[]
  staticTypes := #[]
  resolved := Array.replicate 124 none
  statics := none }

def pool1 : Array CpInfo := pool [(2, .class_ 4), (1, u "java/lang/Object"), (0, u "<init>"), (0, u "()V"), (0, .methodref 8 9), (0, .class_ 10), (0, .nameAndType 11 12), (0, u "com/example/shelfmark/shelfmark/Digits"), (0, u "digit"), (0, u "(I)C"), (0, .string 14), (0, u "0123456789ABCDEF"), (0, .methodref 16 17), (0, .class_ 18), (0, .nameAndType 19 12), (0, u "java/lang/String"), (0, u "charAt"), (0, .methodref 8 21), (0, .nameAndType 22 23), (0, u "value"), (0, u "(C)I"), (0, .class_ 25), (0, u "com/example/shelfmark/shelfmark/DigitsDigitPinLaw"), (2, u "law"), (0, u "(I)Z")] 3

def k1m0 : Method := { name := "<init>", desc := "()V", sig := { parameters := [], returnType := none }, accessFlags := 2, code := none }
def k1c1 : Code := { maxStack := 3, maxLocals := 5, code := code, exceptionTable := #[], attributes := #[] }
def k1m1 : Method := { name := "law", desc := "(I)Z", sig := { parameters := [.int], returnType := some .boolean }, accessFlags := 9, code := some k1c1 }
/-- com/example/shelfmark/shelfmark/DigitsDigitPinLaw -/
def k1 : Class := { plain "com/example/shelfmark/shelfmark/DigitsDigitPinLaw" (some 0) with
  accessFlags := 49
  interfaces := #[]
  cf := some (fileOf pool1 24 #[] #[{ accessFlags := 2, nameIndex := 5, descriptorIndex := 6, attributes := #[] }, { accessFlags := 9, nameIndex := 28, descriptorIndex := 29, attributes := #[] }] 49 2 #[] #[])
  fields := #[]
  methods := #[k1m0, k1m1]
  instanceTypes := #[]
  staticTypes := #[]
  resolved := Array.replicate 33 none
  statics := none }

def pool2 : Array CpInfo := pool [(2, .class_ 4), (1, u "java/lang/Object"), (0, u "<init>"), (0, u "()V"), (1, .class_ 10), (1, u "com/example/shelfmark/shelfmark/Digits"), (26, u "(I)C"), (2, u "value"), (0, u "(C)I"), (29, u "digit")] 2

def k2m0 : Method := { name := "<init>", desc := "()V", sig := { parameters := [], returnType := none }, accessFlags := 2, code := none }
def k2c1 : Code := { maxStack := 2, maxLocals := 1, code := prog_4_method_4_code, exceptionTable := #[], attributes := #[] }
def k2m1 : Method := { name := "value", desc := "(C)I", sig := { parameters := [.char], returnType := some .int }, accessFlags := 8, code := some k2c1 }
def k2c2 : Code := { maxStack := 2, maxLocals := 1, code := prog_4_method_5_code, exceptionTable := #[], attributes := #[] }
def k2m2 : Method := { name := "digit", desc := "(I)C", sig := { parameters := [.int], returnType := some .char }, accessFlags := 8, code := some k2c2 }
/-- com/example/shelfmark/shelfmark/Digits -/
def k2 : Class := { plain "com/example/shelfmark/shelfmark/Digits" (some 0) with
  accessFlags := 48
  interfaces := #[]
  cf := some (fileOf pool2 8 #[] #[{ accessFlags := 2, nameIndex := 5, descriptorIndex := 6, attributes := #[] }, { accessFlags := 8, nameIndex := 40, descriptorIndex := 41, attributes := #[] }, { accessFlags := 8, nameIndex := 71, descriptorIndex := 37, attributes := #[] }] 48 2 #[] #[])
  fields := #[]
  methods := #[k2m0, k2m1, k2m2]
  instanceTypes := #[]
  staticTypes := #[]
  resolved := Array.replicate 74 none
  statics := none }

def pool3 : Array CpInfo := pool [(1, .class_ 2), (0, u "java/io/Serializable"), (0, .class_ 4), (0, u "java/lang/Object")] 2

/-- java/io/Serializable -/
def k3 : Class := { plain "java/io/Serializable" (some 0) with
  accessFlags := 1537
  interfaces := #[]
  cf := some (fileOf pool3 1 #[] #[] 1537 3 #[] #[])
  fields := #[]
  methods := #[]
  instanceTypes := #[]
  staticTypes := #[]
  resolved := Array.replicate 7 none
  statics := none }

def pool4 : Array CpInfo := pool [(1, .class_ 2), (0, u "java/lang/Comparable"), (0, .class_ 4), (0, u "java/lang/Object")] 7

/-- java/lang/Comparable -/
def k4 : Class := { plain "java/lang/Comparable" (some 0) with
  accessFlags := 1537
  interfaces := #[]
  cf := some (fileOf pool4 1 #[] #[] 1537 3 #[] #[])
  fields := #[]
  methods := #[]
  instanceTypes := #[]
  staticTypes := #[]
  resolved := Array.replicate 12 none
  statics := none }

def pool5 : Array CpInfo := pool [(2, .class_ 4), (1, u "java/lang/CharSequence"), (42, .class_ 48), (0, u "java/lang/CharSequence$1CodePointIterator"), (10, .class_ 60), (0, u "java/lang/CharSequence$1CharIterator"), (5, .class_ 67), (0, u "java/lang/Object")] 63

/-- java/lang/CharSequence -/
def k5 : Class := { plain "java/lang/CharSequence" (some 0) with
  accessFlags := 1537
  interfaces := #[]
  cf := some (fileOf pool5 2 #[.nestMembers #[47, 59]] #[] 1537 66 #[] #[])
  fields := #[]
  methods := #[]
  instanceTypes := #[]
  staticTypes := #[]
  resolved := Array.replicate 131 none
  statics := none }

def pool6 : Array CpInfo := pool [(1, .class_ 2), (0, u "java/lang/constant/Constable"), (0, .class_ 4), (0, u "java/lang/Object")] 6

/-- java/lang/constant/Constable -/
def k6 : Class := { plain "java/lang/constant/Constable" (some 0) with
  accessFlags := 1537
  interfaces := #[]
  cf := some (fileOf pool6 1 #[] #[] 1537 3 #[] #[])
  fields := #[]
  methods := #[]
  instanceTypes := #[]
  staticTypes := #[]
  resolved := Array.replicate 11 none
  statics := none }

def pool7 : Array CpInfo := pool [(1, .class_ 2), (0, u "java/lang/constant/ConstantDesc"), (0, .class_ 4), (0, u "java/lang/Object")] 32

/-- java/lang/constant/ConstantDesc -/
def k7 : Class := { plain "java/lang/constant/ConstantDesc" (some 0) with
  accessFlags := 1537
  interfaces := #[]
  cf := some (fileOf pool7 1 #[] #[] 1537 3 #[] #[])
  fields := #[]
  methods := #[]
  instanceTypes := #[]
  staticTypes := #[]
  resolved := Array.replicate 37 none
  statics := none }

def pool8 : Array CpInfo := pool [(2, .class_ 4), (1, u "java/lang/Object"), (0, u "<init>"), (0, u "()V"), (2, .fieldref 10 11), (0, .class_ 12), (0, .nameAndType 13 14), (0, u "java/lang/String"), (0, u "value"), (0, u "[B"), (0, .fieldref 10 16), (0, .nameAndType 17 18), (0, u "coder"), (0, u "B"), (2, u "hash"), (0, u "I"), (2, u "hashIsZero"), (0, u "Z"), (11, .fieldref 10 39), (0, .nameAndType 40 26), (0, u "COMPACT_STRINGS"), (66, .class_ 109), (1, u "java/lang/StringLatin1"), (32, u "()Z"), (220, u "([BI)C"), (27, u "(II)V"), (35, u "(I)C"), (64, .methodref 10 493), (0, .nameAndType 494 142), (0, u "isLatin1"), (0, .methodref 107 496), (0, .nameAndType 497 363), (0, u "charAt"), (3, u "checkIndex"), (73, .class_ 576), (0, u "java/lang/CharSequence"), (22, u "CASE_INSENSITIVE_ORDER"), (0, u "Ljava/util/Comparator;"), (452, .fieldref 1054 1055), (0, .class_ 1056), (0, .nameAndType 1057 1058), (0, u "jdk/internal/util/Preconditions"), (0, u "SIOOBE_FORMATTER"), (0, u "Ljava/util/function/BiFunction;"), (0, .methodref 1054 1060), (0, .nameAndType 501 1061), (0, u "(IILjava/util/function/BiFunction;)I"), (39, u "serialPersistentFields"), (0, u "[Ljava/io/ObjectStreamField;"), (0, .class_ 1104), (0, u "java/lang/String$CaseInsensitiveComparator"), (1, .class_ 1107), (0, u "java/io/Serializable"), (0, .class_ 1109), (0, u "java/lang/Comparable"), (0, .class_ 1111), (0, u "java/lang/constant/Constable"), (0, .class_ 1113), (0, u "java/lang/constant/ConstantDesc"), (2, u "serialVersionUID"), (0, u "J"), (3, u "REPL"), (0, u "C"), (2, u "LATIN1"), (1, u "UTF16")] 323

def k8m0 : Method := { name := "<init>", desc := "()V", sig := { parameters := [], returnType := none }, accessFlags := 1, code := none }
def k8c1 : Code := { maxStack := 2, maxLocals := 2, code := jdk_42_method_56_code, exceptionTable := #[], attributes := #[] }
def k8m1 : Method := { name := "charAt", desc := "(I)C", sig := { parameters := [.int], returnType := some .char }, accessFlags := 1, code := some k8c1 }
def k8c2 : Code := { maxStack := 1, maxLocals := 1, code := jdk_42_method_154_code, exceptionTable := #[], attributes := #[] }
def k8m2 : Method := { name := "isLatin1", desc := "()Z", sig := { parameters := [], returnType := some .boolean }, accessFlags := 0, code := some k8c2 }
def k8c3 : Code := { maxStack := 3, maxLocals := 2, code := jdk_42_method_155_code, exceptionTable := #[], attributes := #[] }
def k8m3 : Method := { name := "checkIndex", desc := "(II)V", sig := { parameters := [.int, .int], returnType := none }, accessFlags := 8, code := some k8c3 }
/-- java/lang/String -/
def k8 : Class := { plain "java/lang/String" (some 0) with
  accessFlags := 49
  interfaces := #[3, 4, 5, 6, 7]
  cf := some (fileOf pool8 10 #[.nestMembers #[1103]] #[{ accessFlags := 1, nameIndex := 5, descriptorIndex := 6, attributes := #[] }, { accessFlags := 1, nameIndex := 497, descriptorIndex := 427, attributes := #[] }, { accessFlags := 0, nameIndex := 494, descriptorIndex := 142, attributes := #[] }, { accessFlags := 8, nameIndex := 501, descriptorIndex := 391, attributes := #[] }] 49 2 #[1106, 1108, 575, 1110, 1112] #[{ accessFlags := 18, nameIndex := 13, descriptorIndex := 14, attributes := #[] }, { accessFlags := 18, nameIndex := 17, descriptorIndex := 18, attributes := #[] }, { accessFlags := 2, nameIndex := 21, descriptorIndex := 22, attributes := #[] }, { accessFlags := 2, nameIndex := 25, descriptorIndex := 26, attributes := #[] }, { accessFlags := 26, nameIndex := 1116, descriptorIndex := 1117, attributes := #[] }, { accessFlags := 24, nameIndex := 40, descriptorIndex := 26, attributes := #[] }, { accessFlags := 26, nameIndex := 1101, descriptorIndex := 1102, attributes := #[] }, { accessFlags := 26, nameIndex := 1121, descriptorIndex := 1122, attributes := #[] }, { accessFlags := 25, nameIndex := 599, descriptorIndex := 600, attributes := #[] }, { accessFlags := 24, nameIndex := 1125, descriptorIndex := 18, attributes := #[] }, { accessFlags := 24, nameIndex := 1127, descriptorIndex := 18, attributes := #[] }])
  fields := #[{ name := "value", type := (.array .byte), accessFlags := 18, slot := 0, constantValue := 0 }, { name := "coder", type := .byte, accessFlags := 18, slot := 1, constantValue := 0 }, { name := "hash", type := .int, accessFlags := 2, slot := 2, constantValue := 0 }, { name := "hashIsZero", type := .boolean, accessFlags := 2, slot := 3, constantValue := 0 }, { name := "serialVersionUID", type := .long, accessFlags := 26, slot := 0, constantValue := 0 }, { name := "COMPACT_STRINGS", type := .boolean, accessFlags := 24, slot := 1, constantValue := 0 }, { name := "serialPersistentFields", type := (.array (.object "java/io/ObjectStreamField")), accessFlags := 26, slot := 2, constantValue := 0 }, { name := "REPL", type := .char, accessFlags := 26, slot := 3, constantValue := 0 }, { name := "CASE_INSENSITIVE_ORDER", type := (.object "java/util/Comparator"), accessFlags := 25, slot := 4, constantValue := 0 }, { name := "LATIN1", type := .byte, accessFlags := 24, slot := 5, constantValue := 0 }, { name := "UTF16", type := .byte, accessFlags := 24, slot := 6, constantValue := 0 }]
  methods := #[k8m0, k8m1, k8m2, k8m3]
  instanceTypes := #[(.array .byte), .byte, .int, .boolean]
  staticTypes := #[.long, .boolean, (.array (.object "java/io/ObjectStreamField")), .char, (.object "java/util/Comparator"), .byte, .byte]
  resolved := Array.replicate 1451 none
  statics := some 0 }

def pool9 : Array CpInfo := pool [(1, .class_ 2), (0, u "java/lang/String"), (1, .class_ 6), (1, u "java/lang/Object"), (0, u "<init>"), (0, u "()V"), (0, .methodref 1 10), (0, .nameAndType 11 12), (0, u "checkIndex"), (0, u "(II)V"), (1, .class_ 16), (1, u "java/lang/StringLatin1"), (36, u "([BI)C"), (67, u "$assertionsDisabled"), (0, u "Z"), (98, .class_ 223), (1, u "java/lang/StringLatin1$LinesSpliterator"), (28, u "charAt"), (137, .class_ 391), (0, u "java/lang/StringLatin1$CharsSpliterator")] 3

def k9m0 : Method := { name := "<init>", desc := "()V", sig := { parameters := [], returnType := none }, accessFlags := 0, code := none }
def k9c1 : Code := { maxStack := 2, maxLocals := 2, code := jdk_43_method_2_code, exceptionTable := #[], attributes := #[] }
def k9m1 : Method := { name := "charAt", desc := "([BI)C", sig := { parameters := [(.array .byte), .int], returnType := some .char }, accessFlags := 9, code := some k9c1 }
/-- java/lang/StringLatin1 -/
def k9 : Class := { plain "java/lang/StringLatin1" (some 0) with
  accessFlags := 48
  interfaces := #[]
  cf := some (fileOf pool9 14 #[.nestMembers #[390, 221]] #[{ accessFlags := 0, nameIndex := 7, descriptorIndex := 8, attributes := #[] }, { accessFlags := 9, nameIndex := 252, descriptorIndex := 53, attributes := #[] }] 48 4 #[] #[{ accessFlags := 4120, nameIndex := 121, descriptorIndex := 122, attributes := #[] }])
  fields := #[{ name := "$assertionsDisabled", type := .boolean, accessFlags := 4120, slot := 0, constantValue := 0 }]
  methods := #[k9m0, k9m1]
  instanceTypes := #[]
  staticTypes := #[.boolean]
  resolved := Array.replicate 395 none
  statics := none }

def pool10 : Array CpInfo := pool [(2, .class_ 4), (1, u "java/lang/Object"), (0, u "<init>"), (0, u "()V"), (17, .class_ 26), (1, u "jdk/internal/util/Preconditions"), (6, u "checkIndex"), (21, .class_ 56), (0, u "jdk/internal/util/Preconditions$4"), (57, .class_ 115), (0, u "jdk/internal/util/Preconditions$1"), (7, u "SIOOBE_FORMATTER"), (0, u "Ljava/util/function/BiFunction;"), (0, .class_ 126), (0, u "jdk/internal/util/Preconditions$2"), (3, u "AIOOBE_FORMATTER"), (0, .class_ 132), (0, u "jdk/internal/util/Preconditions$3"), (3, u "IOOBE_FORMATTER"), (41, u "(IILjava/util/function/BiFunction;)I")] 15

def k10m0 : Method := { name := "<init>", desc := "()V", sig := { parameters := [], returnType := none }, accessFlags := 1, code := none }
def k10c1 : Code := { maxStack := 3, maxLocals := 3, code := jdk_41_method_11_code, exceptionTable := #[], attributes := #[] }
def k10m1 : Method := { name := "checkIndex", desc := "(IILjava/util/function/BiFunction;)I", sig := { parameters := [.int, .int, (.object "java/util/function/BiFunction")], returnType := some .int }, accessFlags := 9, code := some k10c1 }
/-- jdk/internal/util/Preconditions -/
def k10 : Class := { plain "jdk/internal/util/Preconditions" (some 0) with
  accessFlags := 33
  interfaces := #[]
  cf := some (fileOf pool10 24 #[.nestMembers #[55, 131, 125, 114]] #[{ accessFlags := 1, nameIndex := 5, descriptorIndex := 6, attributes := #[] }, { accessFlags := 9, nameIndex := 33, descriptorIndex := 178, attributes := #[] }] 33 2 #[] #[{ accessFlags := 25, nameIndex := 123, descriptorIndex := 124, attributes := #[] }, { accessFlags := 25, nameIndex := 130, descriptorIndex := 124, attributes := #[] }, { accessFlags := 25, nameIndex := 136, descriptorIndex := 124, attributes := #[] }])
  fields := #[{ name := "SIOOBE_FORMATTER", type := (.object "java/util/function/BiFunction"), accessFlags := 25, slot := 0, constantValue := 0 }, { name := "AIOOBE_FORMATTER", type := (.object "java/util/function/BiFunction"), accessFlags := 25, slot := 1, constantValue := 0 }, { name := "IOOBE_FORMATTER", type := (.object "java/util/function/BiFunction"), accessFlags := 25, slot := 2, constantValue := 0 }]
  methods := #[k10m0, k10m1]
  instanceTypes := #[]
  staticTypes := #[(.object "java/util/function/BiFunction"), (.object "java/util/function/BiFunction"), (.object "java/util/function/BiFunction")]
  resolved := Array.replicate 194 none
  statics := some 1 }

def pool11 : Array CpInfo := pool [(9, u "<init>"), (6, .class_ 18), (1, u "java/lang/Object"), (0, u "()V"), (1, .class_ 23), (1, u "jdk/internal/util/ArraysSupport"), (0, u "LOG2_ARRAY_LONG_INDEX_SCALE"), (0, u "I"), (2, u "U"), (0, u "Ljdk/internal/misc/Unsafe;"), (8, u "BIG_ENDIAN"), (0, u "Z"), (8, u "LOG2_BYTE_BIT_SIZE"), (4, u "LOG2_ARRAY_INT_INDEX_SCALE"), (54, u "JLA"), (0, u "Ljdk/internal/access/JavaLangAccess;"), (11, u "LOG2_ARRAY_BOOLEAN_INDEX_SCALE"), (9, u "LOG2_ARRAY_BYTE_INDEX_SCALE"), (5, u "LOG2_ARRAY_CHAR_INDEX_SCALE"), (5, u "LOG2_ARRAY_SHORT_INDEX_SCALE"), (18, u "LOG2_ARRAY_FLOAT_INDEX_SCALE"), (24, u "LOG2_ARRAY_DOUBLE_INDEX_SCALE"), (89, u "T_BOOLEAN"), (2, u "T_CHAR"), (1, u "T_FLOAT"), (1, u "T_DOUBLE"), (1, u "T_BYTE"), (1, u "T_SHORT"), (1, u "T_INT"), (1, u "T_LONG"), (1, u "SOFT_MAX_ARRAY_LENGTH")] 83

def k11m0 : Method := { name := "<init>", desc := "()V", sig := { parameters := [], returnType := none }, accessFlags := 2, code := none }
/-- jdk/internal/util/ArraysSupport -/
def k11 : Class := { plain "jdk/internal/util/ArraysSupport" (some 0) with
  accessFlags := 33
  interfaces := #[]
  cf := some (fileOf pool11 21 #[] #[{ accessFlags := 2, nameIndex := 9, descriptorIndex := 19, attributes := #[] }] 33 16 #[] #[{ accessFlags := 24, nameIndex := 28, descriptorIndex := 29, attributes := #[] }, { accessFlags := 26, nameIndex := 38, descriptorIndex := 39, attributes := #[] }, { accessFlags := 25, nameIndex := 121, descriptorIndex := 25, attributes := #[] }, { accessFlags := 25, nameIndex := 131, descriptorIndex := 25, attributes := #[] }, { accessFlags := 25, nameIndex := 137, descriptorIndex := 25, attributes := #[] }, { accessFlags := 25, nameIndex := 143, descriptorIndex := 25, attributes := #[] }, { accessFlags := 25, nameIndex := 53, descriptorIndex := 25, attributes := #[] }, { accessFlags := 25, nameIndex := 24, descriptorIndex := 25, attributes := #[] }, { accessFlags := 25, nameIndex := 162, descriptorIndex := 25, attributes := #[] }, { accessFlags := 25, nameIndex := 187, descriptorIndex := 25, attributes := #[] }, { accessFlags := 26, nameIndex := 48, descriptorIndex := 25, attributes := #[] }, { accessFlags := 25, nameIndex := 277, descriptorIndex := 25, attributes := #[] }, { accessFlags := 25, nameIndex := 280, descriptorIndex := 25, attributes := #[] }, { accessFlags := 25, nameIndex := 282, descriptorIndex := 25, attributes := #[] }, { accessFlags := 25, nameIndex := 284, descriptorIndex := 25, attributes := #[] }, { accessFlags := 25, nameIndex := 286, descriptorIndex := 25, attributes := #[] }, { accessFlags := 25, nameIndex := 288, descriptorIndex := 25, attributes := #[] }, { accessFlags := 25, nameIndex := 290, descriptorIndex := 25, attributes := #[] }, { accessFlags := 25, nameIndex := 292, descriptorIndex := 25, attributes := #[] }, { accessFlags := 26, nameIndex := 108, descriptorIndex := 109, attributes := #[] }, { accessFlags := 25, nameIndex := 294, descriptorIndex := 25, attributes := #[] }])
  fields := #[{ name := "U", type := (.object "jdk/internal/misc/Unsafe"), accessFlags := 24, slot := 0, constantValue := 0 }, { name := "BIG_ENDIAN", type := .boolean, accessFlags := 26, slot := 1, constantValue := 0 }, { name := "LOG2_ARRAY_BOOLEAN_INDEX_SCALE", type := .int, accessFlags := 25, slot := 2, constantValue := 0 }, { name := "LOG2_ARRAY_BYTE_INDEX_SCALE", type := .int, accessFlags := 25, slot := 3, constantValue := 0 }, { name := "LOG2_ARRAY_CHAR_INDEX_SCALE", type := .int, accessFlags := 25, slot := 4, constantValue := 0 }, { name := "LOG2_ARRAY_SHORT_INDEX_SCALE", type := .int, accessFlags := 25, slot := 5, constantValue := 0 }, { name := "LOG2_ARRAY_INT_INDEX_SCALE", type := .int, accessFlags := 25, slot := 6, constantValue := 0 }, { name := "LOG2_ARRAY_LONG_INDEX_SCALE", type := .int, accessFlags := 25, slot := 7, constantValue := 0 }, { name := "LOG2_ARRAY_FLOAT_INDEX_SCALE", type := .int, accessFlags := 25, slot := 8, constantValue := 0 }, { name := "LOG2_ARRAY_DOUBLE_INDEX_SCALE", type := .int, accessFlags := 25, slot := 9, constantValue := 0 }, { name := "LOG2_BYTE_BIT_SIZE", type := .int, accessFlags := 26, slot := 10, constantValue := 0 }, { name := "T_BOOLEAN", type := .int, accessFlags := 25, slot := 11, constantValue := 0 }, { name := "T_CHAR", type := .int, accessFlags := 25, slot := 12, constantValue := 0 }, { name := "T_FLOAT", type := .int, accessFlags := 25, slot := 13, constantValue := 0 }, { name := "T_DOUBLE", type := .int, accessFlags := 25, slot := 14, constantValue := 0 }, { name := "T_BYTE", type := .int, accessFlags := 25, slot := 15, constantValue := 0 }, { name := "T_SHORT", type := .int, accessFlags := 25, slot := 16, constantValue := 0 }, { name := "T_INT", type := .int, accessFlags := 25, slot := 17, constantValue := 0 }, { name := "T_LONG", type := .int, accessFlags := 25, slot := 18, constantValue := 0 }, { name := "JLA", type := (.object "jdk/internal/access/JavaLangAccess"), accessFlags := 26, slot := 19, constantValue := 0 }, { name := "SOFT_MAX_ARRAY_LENGTH", type := .int, accessFlags := 25, slot := 20, constantValue := 0 }]
  methods := #[k11m0]
  instanceTypes := #[]
  staticTypes := #[(.object "jdk/internal/misc/Unsafe"), .boolean, .int, .int, .int, .int, .int, .int, .int, .int, .int, .int, .int, .int, .int, .int, .int, .int, .int, (.object "jdk/internal/access/JavaLangAccess"), .int]
  resolved := Array.replicate 378 none
  statics := none }

def pool12 : Array CpInfo := pool [(1, u "java/lang/Cloneable"), (0, .class_ 1), (0, u "java/lang/Object"), (0, .class_ 3)] 3

/-- java/lang/Cloneable -/
def k12 : Class := { plain "java/lang/Cloneable" (some 0) with
  accessFlags := 1537
  interfaces := #[]
  cf := some (fileOf pool12 2 #[] #[] 1537 4 #[] #[])
  fields := #[]
  methods := #[]
  instanceTypes := #[]
  staticTypes := #[]
  resolved := Array.replicate 8 none
  statics := none }

/-- the primitive byte -/
def k13 : Class := { plain "byte" none with kind := .primitive 'B', accessFlags := 0x411 }
/-- [B -/
def k14 : Class := { plain "[B" (some 0) with kind := .array 13 .byte, interfaces := #[12, 3], accessFlags := 1041 }

/-- the primitive int -/
def k15 : Class := { plain "int" none with kind := .primitive 'I', accessFlags := 0x411 }
/-- [I -/
def k16 : Class := { plain "[I" (some 0) with kind := .array 15 .int, interfaces := #[12, 3], accessFlags := 1041 }

def heap : Heap := #[{ cls := 8, slots := #[.long 0, .int 1, .null, .int 0, .null, .int 0, .int 0], vm := .statics 8 },
  { cls := 10, slots := #[.null, .null, .null], vm := .statics 10 }]
def classes : Array Class := #[k0, k1, k2, k3, k4, k5, k6, k7, k8, k9, k10, k11, k12, k13, k14, k15, k16]
def interned : List (Array UInt16 × Addr) := []
def slotsUsed : Nat := 10
def theMethod : MethodId := ⟨1, 1⟩
def args0 : Array Value := #[.int 3]
def aboutOver (below : List Frame) : State where
  vm := { classes := classes, interned := interned.toArray }
  heap := heap
  slotsUsed := slotsUsed
  threads := #[{ frames := .invoking theMethod args0 :: below }]
def below0 : List Frame := [.native { method := ⟨0, 0⟩, args := #[] }]
def about1 : State := aboutOver below0
def p0 : Program := .bare "" "" ""
def e0 : Env := launch0.env 0 0 0
theorem w_frames : about1.frames = Frame.invoking theMethod args0 :: below0 := rfl
set_option maxRecDepth 65536 in
theorem w_args : argsFit about1.vm theMethod args0 = true := by decide +kernel
set_option maxRecDepth 65536 in
theorem w_heap : heapFits about1 = true := by decide +kernel
set_option maxRecDepth 65536 in
theorem w_runnable : about1.curStatus? = some .runnable := by decide +kernel
set_option maxRecDepth 65536 in
theorem w_alone : about1.alone = true := by decide +kernel
set_option maxRecDepth 65536 in
theorem w_named : about1.methodNamed? x = some theMethod := by decide +kernel
set_option maxRecDepth 65536 in
theorem w_hears : about1.hears theMethod below0 = true := by decide +kernel
set_option maxRecDepth 65536 in
theorem w_ripe : about1.ripe theMethod args0 below0 = true := by decide +kernel
theorem w_running : about1.status = .running := rfl
set_option maxRecDepth 65536 in
theorem w_room : about1.hasRoom e0.platform room_1 = true :=
  launch0.hasRoom_least _ room_1 (by decide +kernel) (by decide +kernel) (by decide +kernel) (by decide +kernel) (by decide +kernel) (by decide +kernel)
theorem allAtoms_all (ts : List Jvm.Cond) (a : Array Jvm.Value) (st : Jvm.State) : (allAtoms ts).before a st = ts.all (fun c => c.before a st) := by
  induction ts with
  | nil => rfl
  | cons c t ih =>
    show (Jvm.Cond.and c (allAtoms t)).before a st = _
    rw [Jvm.Cond.before_and, ih, List.all_cons]
def words1 : List Jvm.Cond := Jvm.Cond.code x code maxLocals ret :: tables_1
/-- a 'code' word, met by the world's own term for the bytes: nothing is compared byte by byte -/
theorem code_word {y : MethodName} {bytes : ByteArray} {mx : Nat} {rt : Option FieldType} {a : Array Value} {s : State} {m : MethodId} {meth : Method} {c : Code} (h1 : s.methodNamed? y = some m) (h2 : s.vm.method? m = some meth) (h3 : meth.code = some c) (h4 : c.code = bytes)
    (h5 : (c.maxLocals == mx && c.exceptionTable.isEmpty && decide (c.maxStack ≤ mostOperands) && decide (meth.sig.returnType = rt) && !meth.locks && decide (parseMethodDescriptor y.desc = some meth.sig)) = true) : (Jvm.Cond.code y bytes mx rt).before a s = true := by
  simp only [Bool.and_eq_true, beq_iff_eq, Bool.not_eq_true', decide_eq_true_eq] at h5
  obtain ⟨⟨⟨⟨⟨g1, g2⟩, g3⟩, g4⟩, g5⟩, g6⟩ := h5
  simp [Cond.before, Cond.holds, Cond.value, h1, h2, h3, h4, g1, g2, g3, g4, g5, g6]
def isCode : Jvm.Cond → Bool
  | .code _ _ _ _ => true
  | _ => false
theorem all_split {L : List Jvm.Cond} {P : Jvm.Cond → Bool} (h1 : L.all (fun c => isCode c || P c) = true) (h2 : ∀ c ∈ L.filter isCode, P c = true) : L.all P = true := by
  refine List.all_eq_true.mpr fun c hc => ?_
  have h := List.all_eq_true.mp h1 c hc
  rcases Bool.eq_false_or_eq_true (isCode c) with hi | hi
  · exact h2 c (List.mem_filter.mpr ⟨hc, hi⟩)
  · simpa [hi] using h
set_option maxRecDepth 65536 in
theorem w_c0 : (Jvm.Cond.code x code maxLocals ret).before args0 about1 = true := code_word (m := ⟨1, 1⟩) (meth := k1m1) (c := k1c1) (by decide +kernel) rfl rfl rfl (by decide +kernel)
set_option maxRecDepth 65536 in
theorem w_c1 : (Jvm.Cond.code ({ cls := "com/example/shelfmark/shelfmark/Digits", name := "digit", desc := "(I)C" } : Jvm.MethodName) prog_4_method_5_code (1 : Nat) (Option.some Jvm.ClassFile.FieldType.char)).before args0 about1 = true := code_word (m := ⟨2, 2⟩) (meth := k2m2) (c := k2c2) (by decide +kernel) rfl rfl rfl (by decide +kernel)
set_option maxRecDepth 65536 in
theorem w_c2 : (Jvm.Cond.code ({ cls := "java/lang/String", name := "charAt", desc := "(I)C" } : Jvm.MethodName) jdk_42_method_56_code (2 : Nat) (Option.some Jvm.ClassFile.FieldType.char)).before args0 about1 = true := code_word (m := ⟨8, 1⟩) (meth := k8m1) (c := k8c1) (by decide +kernel) rfl rfl rfl (by decide +kernel)
set_option maxRecDepth 65536 in
theorem w_c3 : (Jvm.Cond.code ({ cls := "java/lang/String", name := "isLatin1", desc := "()Z" } : Jvm.MethodName) jdk_42_method_154_code (1 : Nat) (Option.some Jvm.ClassFile.FieldType.boolean)).before args0 about1 = true := code_word (m := ⟨8, 2⟩) (meth := k8m2) (c := k8c2) (by decide +kernel) rfl rfl rfl (by decide +kernel)
set_option maxRecDepth 65536 in
theorem w_c4 : (Jvm.Cond.code ({ cls := "java/lang/StringLatin1", name := "charAt", desc := "([BI)C" } : Jvm.MethodName) jdk_43_method_2_code (2 : Nat) (Option.some Jvm.ClassFile.FieldType.char)).before args0 about1 = true := code_word (m := ⟨9, 1⟩) (meth := k9m1) (c := k9c1) (by decide +kernel) rfl rfl rfl (by decide +kernel)
set_option maxRecDepth 65536 in
theorem w_c5 : (Jvm.Cond.code ({ cls := "java/lang/String", name := "checkIndex", desc := "(II)V" } : Jvm.MethodName) jdk_42_method_155_code (2 : Nat) (Option.none : Option Jvm.ClassFile.FieldType)).before args0 about1 = true := code_word (m := ⟨8, 3⟩) (meth := k8m3) (c := k8c3) (by decide +kernel) rfl rfl rfl (by decide +kernel)
set_option maxRecDepth 65536 in
theorem w_c6 : (Jvm.Cond.code ({ cls := "jdk/internal/util/Preconditions", name := "checkIndex", desc := "(IILjava/util/function/BiFunction;)I" } : Jvm.MethodName) jdk_41_method_11_code (3 : Nat) (Option.some Jvm.ClassFile.FieldType.int)).before args0 about1 = true := code_word (m := ⟨10, 1⟩) (meth := k10m1) (c := k10c1) (by decide +kernel) rfl rfl rfl (by decide +kernel)
set_option maxRecDepth 65536 in
theorem w_c7 : (Jvm.Cond.code ({ cls := "com/example/shelfmark/shelfmark/Digits", name := "value", desc := "(C)I" } : Jvm.MethodName) prog_4_method_4_code (1 : Nat) (Option.some Jvm.ClassFile.FieldType.int)).before args0 about1 = true := code_word (m := ⟨2, 1⟩) (meth := k2m1) (c := k2c1) (by decide +kernel) rfl rfl rfl (by decide +kernel)
def codes1 : List Jvm.Cond := [Jvm.Cond.code x code maxLocals ret, Jvm.Cond.code ({ cls := "com/example/shelfmark/shelfmark/Digits", name := "digit", desc := "(I)C" } : Jvm.MethodName) prog_4_method_5_code (1 : Nat) (Option.some Jvm.ClassFile.FieldType.char), Jvm.Cond.code ({ cls := "java/lang/String", name := "charAt", desc := "(I)C" } : Jvm.MethodName) jdk_42_method_56_code (2 : Nat) (Option.some Jvm.ClassFile.FieldType.char), Jvm.Cond.code ({ cls := "java/lang/String", name := "isLatin1", desc := "()Z" } : Jvm.MethodName) jdk_42_method_154_code (1 : Nat) (Option.some Jvm.ClassFile.FieldType.boolean), Jvm.Cond.code ({ cls := "java/lang/StringLatin1", name := "charAt", desc := "([BI)C" } : Jvm.MethodName) jdk_43_method_2_code (2 : Nat) (Option.some Jvm.ClassFile.FieldType.char), Jvm.Cond.code ({ cls := "java/lang/String", name := "checkIndex", desc := "(II)V" } : Jvm.MethodName) jdk_42_method_155_code (2 : Nat) (Option.none : Option Jvm.ClassFile.FieldType), Jvm.Cond.code ({ cls := "jdk/internal/util/Preconditions", name := "checkIndex", desc := "(IILjava/util/function/BiFunction;)I" } : Jvm.MethodName) jdk_41_method_11_code (3 : Nat) (Option.some Jvm.ClassFile.FieldType.int), Jvm.Cond.code ({ cls := "com/example/shelfmark/shelfmark/Digits", name := "value", desc := "(C)I" } : Jvm.MethodName) prog_4_method_4_code (1 : Nat) (Option.some Jvm.ClassFile.FieldType.int)]
set_option maxRecDepth 65536 in
theorem codes_eq : words1.filter isCode = codes1 := rfl
theorem w_codes : ∀ c ∈ words1.filter isCode, c.before args0 about1 = true := by
  rw [codes_eq]
  intro c hc
  simp only [codes1, List.mem_cons, List.not_mem_nil, or_false] at hc
  rcases hc with rfl | rfl | rfl | rfl | rfl | rfl | rfl | rfl
  · exact w_c0
  · exact w_c1
  · exact w_c2
  · exact w_c3
  · exact w_c4
  · exact w_c5
  · exact w_c6
  · exact w_c7
set_option maxRecDepth 65536 in
theorem w_t1 : (words1.take 24).all (fun c => isCode c || c.before args0 about1) = true := by decide +kernel
set_option maxRecDepth 65536 in
theorem w_t2 : (words1.drop 24).all (fun c => isCode c || c.before args0 about1) = true := by decide +kernel
theorem w_tables : (allAtoms (Jvm.Cond.code x code maxLocals ret :: tables_1)).before args0 about1 = true := by
  rw [allAtoms_all]
  show words1.all (fun c => c.before args0 about1) = true
  refine all_split ?_ w_codes
  rw [← List.take_append_drop 24 words1, List.all_append, w_t1, w_t2]
  rfl
set_option maxRecDepth 65536 in
theorem w_rest : rest_1_c.before args0 about1 = true := by decide +kernel
set_option maxRecDepth 65536 in
theorem w_case : (Jvm.Cond.and given_1 narrow_1).before args0 about1 = true := by decide +kernel
set_option maxRecDepth 65536 in
theorem w_consts : constsHeld consts_1 about1 := Jvm.Lit.constsHeldB_iff.mp (by decide +kernel)
theorem w_applies : (headSpec (Jvm.Cond.code x code maxLocals ret :: tables_1) room_1).applies x e0.platform about1 = true :=
  (Spec.applies_iff w_frames).mpr ⟨w_running, w_runnable, w_alone, w_named, w_hears, w_ripe, w_room, w_tables⟩
theorem atStart : AtStart classFile x code maxLocals ret World_1 tables_1 room_1 Calls_1 rest_1 Pre_1 launch0 p0 e0 about1 theMethod args0 below0 :=
  ⟨lists_1, trivial, launch0.admits_env _ _ _, launch0.least_env, fairChoices_fair.cas, fairChoices_fair.clock, w_frames, w_args, w_heap, w_applies, ⟨w_consts, trivial⟩, w_rest, w_case⟩
end start1
theorem witness_1 : WitnessClaimed_1 := ⟨start1.p0, start1.e0, start1.about1, start1.theMethod, start1.args0, start1.below0, start1.atStart⟩
end Jvm.Pilot.@@N@@
