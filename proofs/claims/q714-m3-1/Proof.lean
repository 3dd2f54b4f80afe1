import JvmDerived
import JvmDerived.Pilot.@@N@@Statement
import JvmDerived.Pilot.@@N@@Code
set_option linter.unusedVariables false
set_option linter.unusedSimpArgs false
namespace Jvm.Pilot.@@N@@
open Jvm Jvm.ClassFile Sem Op Lib Jvm.Free Jvm.Stand Jvm.LawKit Jvm.RoadKit Bundle Jvm.Pilot.@@N@@.Jvm.D
section Own
variable {p : Program} {l : Launch} {e : Env} {R : Room} {s : State} {m : MethodId} {args : Array Value} {below : List Frame} {meth : Method} {c : Code} {T : State} {locs : List Loc} {cells slots : Nat}
/-- from U the run comes to an end of which Q holds -/
def OwnEnds (tb : Tables) (e : Env) (below : List Frame) (Q : Outcome → State → Prop) (U : State) : Prop :=
  ∃ s₂ o, Steps tb e below U s₂ ∧ s₂.status = .running ∧ Ended s₂ below o ∧ Q o s₂
abbrev OwnQ (s : State) (K N : Nat) (Q : Option Value → Heap → List Loc → Prop) : Outcome → State → Prop :=
  fun o U => ∃ v L, o = .returned v ∧ Q v U.heap L ∧ FrameEnd s o U L K N
theorem own_via {tb : Tables} {Q : Outcome → State → Prop} {U U' : State} (h : ∀ t, Steps tb e below U' t → Steps tb e below U t) (k : OwnEnds tb e below Q U') : OwnEnds tb e below Q U := by
  obtain ⟨s₂, o, h1, h2⟩ := k
  exact ⟨s₂, o, h _ h1, h2⟩
theorem own_of {tb : Tables} {Q : Outcome → State → Prop} {U U' : State} (h : Steps tb e below U U') (k : OwnEnds tb e below Q U') : OwnEnds tb e below Q U :=
  own_via (fun _ q => h.trans q) k
theorem own_wide {K N : Nat} (X : Stand p l e R s m args below meth c T locs cells slots) (h1 : cells ≤ K) (h2 : slots ≤ N) : Stand p l e R s m args below meth c T locs K N :=
  { X with same := X.same.mono h1 h2 }
theorem own_ret (X : Stand p l e R s m args below meth c T locs cells slots) {Q : Option Value → Heap → List Loc → Prop} {K N : Nat} {v : Option Value} (hv : meth.sig.returnType = none → v = none) (hlk : meth.locks = false) {f : JFrame}
    (st : ∀ fs, (∀ (f : JFrame) (acts : List Action), f.method = m → f.locked = none → f.entered = [] → (doReturn e (T.setTop f) acts v).1 = T.setFrames fs) → Steps p.tables e below (T.setTop f) (T.setFrames fs))
    (hQ : Q v T.heap locs) (hK : cells ≤ K) (hN : slots ≤ N) : OwnEnds p.tables e below (OwnQ s K N Q) (T.setTop f) := by
  obtain ⟨fs, hr, hrun, hended, hW, hsame⟩ := X.leave (v := v) hv hlk
  exact ⟨_, _, st fs hr, hrun, hended, _, _, rfl, hQ, ⟨_, rfl⟩, hW, hsame.mono hK hN⟩
theorem own_retI (X : Stand p l e R s m args below meth c T locs cells slots) (hx : p.tables.exec = Jvm.exec) {Q : Option Value → Heap → List Loc → Prop} {K N pc : Nat} {Ls : Array Slot} {z : Int32} {rest : List Value} (hret : meth.sig.returnType = some .int) (hlk : meth.locks = false) (hd : decode c.code pc = .ok (.ireturn, 1))
    (hQ : Q (some (.int z)) T.heap locs) (hK : cells ≤ K) (hN : slots ≤ N) : OwnEnds p.tables e below (OwnQ s K N Q) (T.setTop (mkF m pc Ls (.int z :: rest))) :=
  own_ret X (fun h => by rw [hret] at h; cases h) hlk (fun fs hl => retOut X hx hret rfl (Or.inl ⟨rfl, Or.inl rfl, z, rfl⟩) hd hl) hQ hK hN
theorem own_retN (X : Stand p l e R s m args below meth c T locs cells slots) (hx : p.tables.exec = Jvm.exec) {Q : Option Value → Heap → List Loc → Prop} {K N pc : Nat} {Ls : Array Slot} {z : Int32} {t : FieldType} {rest : List Value} (hret : meth.sig.returnType = some t) (ht : t = .boolean ∨ t = .byte ∨ t = .char ∨ t = .short) (hlk : meth.locks = false) (hd : decode c.code pc = .ok (.ireturn, 1))
    (hQ : Q (some (.int (nar t z))) T.heap locs) (hK : cells ≤ K) (hN : slots ≤ N) : OwnEnds p.tables e below (OwnQ s K N Q) (T.setTop (mkF m pc Ls (.int z :: rest))) :=
  own_ret X (fun h => by rw [hret] at h; cases h) hlk (fun fs hl => retN X hx hret ht hd hl) hQ hK hN
theorem own_retJ (X : Stand p l e R s m args below meth c T locs cells slots) (hx : p.tables.exec = Jvm.exec) {Q : Option Value → Heap → List Loc → Prop} {K N pc : Nat} {Ls : Array Slot} {z : Int64} {rest : List Value} (hret : meth.sig.returnType = some .long) (hlk : meth.locks = false) (hd : decode c.code pc = .ok (.lreturn, 1))
    (hQ : Q (some (.long z)) T.heap locs) (hK : cells ≤ K) (hN : slots ≤ N) : OwnEnds p.tables e below (OwnQ s K N Q) (T.setTop (mkF m pc Ls (.long z :: rest))) :=
  own_ret X (fun h => by rw [hret] at h; cases h) hlk (fun fs hl => retOut X hx hret rfl (Or.inr (Or.inl ⟨rfl, rfl, z, rfl⟩)) hd hl) hQ hK hN
theorem own_retA (X : Stand p l e R s m args below meth c T locs cells slots) (hx : p.tables.exec = Jvm.exec) {Q : Option Value → Heap → List Loc → Prop} {K N pc : Nat} {Ls : Array Slot} {w : Value} {t : FieldType} {rest : List Value} (hret : meth.sig.returnType = some t) (ht : t.isReference = true) (hw : w.isRef = true) (hlk : meth.locks = false) (hd : decode c.code pc = .ok (.areturn, 1))
    (hQ : Q (some w) T.heap locs) (hK : cells ≤ K) (hN : slots ≤ N) : OwnEnds p.tables e below (OwnQ s K N Q) (T.setTop (mkF m pc Ls (w :: rest))) :=
  own_ret X (fun h => by rw [hret] at h; cases h) hlk (fun fs hl => retOut X hx hret (by cases t <;> first | (cases ht; done) | (cases w <;> first | rfl | (cases hw; done))) (Or.inr (Or.inr (Or.inr (Or.inr ⟨rfl, ht, hw⟩)))) hd hl) hQ hK hN
theorem own_retV (X : Stand p l e R s m args below meth c T locs cells slots) (hx : p.tables.exec = Jvm.exec) {Q : Option Value → Heap → List Loc → Prop} {K N pc : Nat} {Ls : Array Slot} (hret : meth.sig.returnType = none) (hlk : meth.locks = false) (hd : decode c.code pc = .ok (.return_, 1))
    (hQ : Q none T.heap locs) (hK : cells ≤ K) (hN : slots ≤ N) : OwnEnds p.tables e below (OwnQ s K N Q) (T.setTop (mkF m pc Ls [])) :=
  own_ret X (fun _ => rfl) hlk (fun fs hl => X.returnOut hx hret hd hl) hQ hK hN
theorem own_lc_lt_t {x y : Int64} (h : x < y) : ifCond.holds .lt (lcmpW x y) = true ∧ ifCond.holds .ge (lcmpW x y) = false := by
  have q : lcmpW x y < 0 := by rw [lcW, lc_lt]; exact h
  exact ⟨(if0 _ _).trans (tlt q).1, (if0 _ _).trans (tlt q).2.1⟩
theorem own_lc_lt_f {x y : Int64} (h : ¬ (x < y)) : ifCond.holds .lt (lcmpW x y) = false ∧ ifCond.holds .ge (lcmpW x y) = true := by
  have q : ¬ lcmpW x y < 0 := by rw [lcW, lc_lt]; exact h
  exact ⟨(if0 _ _).trans (flt q).1, (if0 _ _).trans (flt q).2.1⟩
theorem own_lc_gt_t {x y : Int64} (h : y < x) : ifCond.holds .gt (lcmpW x y) = true ∧ ifCond.holds .le (lcmpW x y) = false := by
  have q : 0 < lcmpW x y := by rw [lcW, lc_gt]; exact h
  exact ⟨(if0 _ _).trans (tlt q).2.2.1, (if0 _ _).trans (tlt q).2.2.2⟩
theorem own_lc_gt_f {x y : Int64} (h : ¬ (y < x)) : ifCond.holds .gt (lcmpW x y) = false ∧ ifCond.holds .le (lcmpW x y) = true := by
  have q : ¬ 0 < lcmpW x y := by rw [lcW, lc_gt]; exact h
  exact ⟨(if0 _ _).trans (flt q).2.2.1, (if0 _ _).trans (flt q).2.2.2⟩
theorem own_lc_eq_t {x y : Int64} (h : x = y) : ifCond.holds .eq (lcmpW x y) = true ∧ ifCond.holds .ne (lcmpW x y) = false := by
  have q : lcmpW x y = 0 := by rw [lcW, lc_eq]; exact h
  exact ⟨(if0 _ _).trans (teq q).1, (if0 _ _).trans (teq q).2⟩
theorem own_lc_eq_f {x y : Int64} (h : ¬ (x = y)) : ifCond.holds .eq (lcmpW x y) = false ∧ ifCond.holds .ne (lcmpW x y) = true := by
  have q : ¬ lcmpW x y = 0 := by rw [lcW, lc_eq]; exact h
  exact ⟨(if0 _ _).trans (feq q).1, (if0 _ _).trans (feq q).2⟩
theorem own_lrem {g : JFrame} {target : State} (X : Stand p l e R s m args below meth c T locs cells slots) (hx : p.tables.exec = Jvm.exec) (hg : g.method = m) {x y : Int64} {rest : List Value} (hd : decode c.code g.pc = .ok (.lrem, 1)) (hs : g.stack = .long y :: .long x :: rest) (hy : y ≠ 0)
    (hr : Steps p.tables e below (T.setTop { g with pc := g.pc + 1, stack := .long (x % y) :: rest }) target) : Steps p.tables e below (T.setTop g) target := by
  have q : x - x / y * y = x % y := lrem_mod x y
  exact XS.lrem X.here hx hg hd hs hy (by rw [q]; exact hr)
theorem own_cat {w : Value} (h : w.isRef = true) : w.category = 1 := by rcases ref_cases h with rfl | ⟨a, rfl⟩ <;> rfl
theorem own_narR {w : Value} {t : FieldType} (ht : t.isReference = true) (h : w.isRef = true) : narrow t w = w := by
  cases t <;> first | (cases ht; done) | (rcases ref_cases h with rfl | ⟨a, rfl⟩ <;> rfl)
theorem own_fitR {w : Value} {t : FieldType} (ht : t.isReference = true) (h : w.isRef = true) : fits t w = true := by
  cases t <;> first | (cases ht; done) | (rcases ref_cases h with rfl | ⟨a, rfl⟩ <;> rfl)
theorem own_narb {c : Prop} [Decidable c] {r : Int32} (h : r = if c then 0 else 1) : nar .boolean r = r := by
  by_cases q : c
  · rw [if_pos q] at h; rw [h]; rfl
  · rw [if_neg q] at h; rw [h]; rfl
/-! arrays as lists of values -/
def AL (Z : State) (h : Heap) (a : Addr) (ty : FieldType) (xs : List Value) : Prop := ∃ c : Cell, Arr Z h a c ty ∧ c.slots.toList = xs ∧ xs.length < 2147483648
variable {Z : State} {h h' : Heap} {a b : Addr} {ty : FieldType} {xs : List Value} {sl : Nat} {v : Value} {ws : List Addr} {C n d : String}
theorem AL.lt (F : AL Z h a ty xs) : a < h.size := by obtain ⟨c, A, -⟩ := F; exact A.lt
theorem AL.ext (F : AL Z h a ty xs) (E : Ext h h') : AL Z h' a ty xs := by obtain ⟨c, A, r⟩ := F; exact ⟨c, A.ext E, r⟩
theorem AL.other (F : AL Z h a ty xs) (W : Wr h h' b sl v) (q : a ≠ b) : AL Z h' a ty xs := by obtain ⟨c, A, r⟩ := F; exact ⟨c, A.other W q, r⟩
theorem AL.keep (F : AL Z h a ty xs) (K : Keep h h' ws) (q : a ∉ ws) : AL Z h' a ty xs := by obtain ⟨c, A, r⟩ := F; exact ⟨c, ⟨K.2.1 a c A.1 q, A.2⟩, r⟩
theorem AL.new {k : ClassId} {z : Int32} (A : Arr Z h a (newA k ty z) ty) (q : ¬ z < 0) {i : Nat} (hi : z.toNatClampNeg = i) : AL Z h a ty (List.replicate i (defaultValue ty)) := by
  refine ⟨_, A, ?_, ?_⟩
  · simp [newA, hi]
  · rw [List.length_replicate, ← hi]; exact (back32 q).2
theorem AL.ne {C : String} (F : AL Z h a ty xs) (G : Exa Z h b C) {a0 : Array Value} {k : Nat} (wi : (Cond.instantiable C k).before a0 Z = true) : b ≠ a := by
  obtain ⟨c, A, -⟩ := F; exact ne_arr G wi A
theorem own_idx {cl : Cell} (hc : cl.slots.toList = xs) {j : Int32} {i : Nat} (hj : j.toInt = i) (hi : i < xs.length) : ¬ (j < 0 ∨ cl.slots.size ≤ j.toNatClampNeg) ∧ j.toNatClampNeg = i := by
  have h1 : j.toNatClampNeg = i := by simp only [Int32.toNatClampNeg, hj]; rfl
  have h2 : cl.slots.size = xs.length := by rw [← hc]; simp
  refine ⟨fun q => ?_, h1⟩
  rcases q with q | q
  · rw [Int32.lt_iff_toInt_lt, hj] at q; have e0 : (0 : Int32).toInt = 0 := rfl; omega
  · omega
theorem own_at {cl : Cell} (hc : cl.slots.toList = xs) {i : Nat} : cl.slots[i]? = xs[i]? := by rw [← hc]; simp
theorem AL.set {cl : Cell} (A : Arr Z h a cl ty) (hc : cl.slots.toList = xs) (hl : xs.length < 2147483648) {i : Nat} (W : Wr h h' a i v) : AL Z h' a ty (xs.set i v) := by
  refine ⟨_, A.same W, ?_, by simpa using hl⟩
  simp [Cell.setSlot, hc]
theorem own_stI (X : Stand p l e R s m args below meth c T locs cells slots) (hx : p.tables.exec = Jvm.exec) (hZ : Z.Warmed39 s.vm) (eT : T.heap = h) (A : AL Z h a .int xs) {j x : Int32} (i : Nat) (hj : j.toInt = i) (hi : i < xs.length) {g : JFrame} (hg : g.method = m) {rest : List Value} (hs : g.stack = .int x :: .int j :: .ref a :: rest) (hd : decode c.code g.pc = .ok (.iastore, 1)) :
    ∃ T' h', Stand p l e R s m args below meth c T' (locs ++ [⟨a, i⟩]) cells slots ∧ T'.heap = h' ∧ Wr h h' a i (.int x) ∧ AL Z h' a .int (xs.set i (.int x)) ∧ ∀ target, Steps p.tables e below (T'.setTop { g with pc := g.pc + 1, stack := rest }) target → Steps p.tables e below (T.setTop g) target := by
  obtain ⟨cl, A1, A2, A3⟩ := A
  obtain ⟨q1, q2⟩ := own_idx A2 hj hi
  obtain ⟨T', h', X', e', W, st⟩ := stI X hx hZ eT A1 q1 hg hs hd
  rw [q2] at X' W
  exact ⟨T', h', X', e', W, AL.set A1 A2 A3 W, st⟩
theorem own_stJ (X : Stand p l e R s m args below meth c T locs cells slots) (hx : p.tables.exec = Jvm.exec) (hZ : Z.Warmed39 s.vm) (eT : T.heap = h) (A : AL Z h a .long xs) {j : Int32} {x : Int64} (i : Nat) (hj : j.toInt = i) (hi : i < xs.length) {g : JFrame} (hg : g.method = m) {rest : List Value} (hs : g.stack = .long x :: .int j :: .ref a :: rest) (hd : decode c.code g.pc = .ok (.lastore, 1)) :
    ∃ T' h', Stand p l e R s m args below meth c T' (locs ++ [⟨a, i⟩]) cells slots ∧ T'.heap = h' ∧ Wr h h' a i (.long x) ∧ AL Z h' a .long (xs.set i (.long x)) ∧ ∀ target, Steps p.tables e below (T'.setTop { g with pc := g.pc + 1, stack := rest }) target → Steps p.tables e below (T.setTop g) target := by
  obtain ⟨cl, A1, A2, A3⟩ := A
  obtain ⟨q1, q2⟩ := own_idx A2 hj hi
  obtain ⟨T', h', X', e', W, st⟩ := stJ X hx hZ eT A1 q1 hg hs hd
  rw [q2] at X' W
  exact ⟨T', h', X', e', W, AL.set A1 A2 A3 W, st⟩
theorem own_stB (X : Stand p l e R s m args below meth c T locs cells slots) (hx : p.tables.exec = Jvm.exec) (hZ : Z.Warmed39 s.vm) (eT : T.heap = h) (A : AL Z h a .byte xs) {j x : Int32} (i : Nat) (hj : j.toInt = i) (hi : i < xs.length) {g : JFrame} (hg : g.method = m) {rest : List Value} (hs : g.stack = .int x :: .int j :: .ref a :: rest) (hd : decode c.code g.pc = .ok (.bastore, 1)) :
    ∃ T' h', Stand p l e R s m args below meth c T' (locs ++ [⟨a, i⟩]) cells slots ∧ T'.heap = h' ∧ Wr h h' a i (.int (nar .byte x)) ∧ AL Z h' a .byte (xs.set i (.int (nar .byte x))) ∧ ∀ target, Steps p.tables e below (T'.setTop { g with pc := g.pc + 1, stack := rest }) target → Steps p.tables e below (T.setTop g) target := by
  obtain ⟨cl, A1, A2, A3⟩ := A
  obtain ⟨q1, q2⟩ := own_idx A2 hj hi
  obtain ⟨T', h', X', e', W, st⟩ := stB X hx hZ eT A1 q1 hg hs hd
  rw [q2] at X' W
  exact ⟨T', h', X', e', W, AL.set A1 A2 A3 W, st⟩
theorem own_stZ (X : Stand p l e R s m args below meth c T locs cells slots) (hx : p.tables.exec = Jvm.exec) (hZ : Z.Warmed39 s.vm) (eT : T.heap = h) (A : AL Z h a .boolean xs) {j x : Int32} (i : Nat) (hj : j.toInt = i) (hi : i < xs.length) {g : JFrame} (hg : g.method = m) {rest : List Value} (hs : g.stack = .int x :: .int j :: .ref a :: rest) (hd : decode c.code g.pc = .ok (.bastore, 1)) :
    ∃ T' h', Stand p l e R s m args below meth c T' (locs ++ [⟨a, i⟩]) cells slots ∧ T'.heap = h' ∧ Wr h h' a i (.int (nar .boolean x)) ∧ AL Z h' a .boolean (xs.set i (.int (nar .boolean x))) ∧ ∀ target, Steps p.tables e below (T'.setTop { g with pc := g.pc + 1, stack := rest }) target → Steps p.tables e below (T.setTop g) target := by
  obtain ⟨cl, A1, A2, A3⟩ := A
  obtain ⟨q1, q2⟩ := own_idx A2 hj hi
  obtain ⟨T', h', X', e', W, st⟩ := stZ X hx hZ eT A1 q1 hg hs hd
  rw [q2] at X' W
  exact ⟨T', h', X', e', W, AL.set A1 A2 A3 W, st⟩
theorem own_stC (X : Stand p l e R s m args below meth c T locs cells slots) (hx : p.tables.exec = Jvm.exec) (hZ : Z.Warmed39 s.vm) (eT : T.heap = h) (A : AL Z h a .char xs) {j x : Int32} (i : Nat) (hj : j.toInt = i) (hi : i < xs.length) {g : JFrame} (hg : g.method = m) {rest : List Value} (hs : g.stack = .int x :: .int j :: .ref a :: rest) (hd : decode c.code g.pc = .ok (.castore, 1)) :
    ∃ T' h', Stand p l e R s m args below meth c T' (locs ++ [⟨a, i⟩]) cells slots ∧ T'.heap = h' ∧ Wr h h' a i (.int (nar .char x)) ∧ AL Z h' a .char (xs.set i (.int (nar .char x))) ∧ ∀ target, Steps p.tables e below (T'.setTop { g with pc := g.pc + 1, stack := rest }) target → Steps p.tables e below (T.setTop g) target := by
  obtain ⟨cl, A1, A2, A3⟩ := A
  obtain ⟨q1, q2⟩ := own_idx A2 hj hi
  obtain ⟨T', h', X', e', W, st⟩ := stC X hx hZ eT A1 q1 hg hs hd
  rw [q2] at X' W
  exact ⟨T', h', X', e', W, AL.set A1 A2 A3 W, st⟩
theorem own_lt_len {i : Nat} (hv : xs[i]? = some v) : i < xs.length := (List.getElem?_eq_some_iff.mp hv).1
theorem own_ldI (X : Stand p l e R s m args below meth c T locs cells slots) (hx : p.tables.exec = Jvm.exec) (hZ : Z.Warmed39 s.vm) (eT : T.heap = h) (A : AL Z h a .int xs) {j : Int32} (i : Nat) (hj : j.toInt = i) (hv : xs[i]? = some v) {g : JFrame} (hg : g.method = m) {rest : List Value} (hs : g.stack = .int j :: .ref a :: rest) (hd : decode c.code g.pc = .ok (.iaload, 1)) :
    ∀ target, Steps p.tables e below (T.setTop { g with pc := g.pc + 1, stack := v :: rest }) target → Steps p.tables e below (T.setTop g) target := by
  obtain ⟨cl, A1, A2, A3⟩ := A
  obtain ⟨q1, q2⟩ := own_idx A2 hj (own_lt_len hv)
  exact X.iaload hx (by rw [eT]; exact A1.1) (State.isArrayOf_alike hZ.alike A1.2.1) A1.2.2 q1 (by rw [q2, own_at A2]; exact hv) hg hs hd
theorem own_ldJ (X : Stand p l e R s m args below meth c T locs cells slots) (hx : p.tables.exec = Jvm.exec) (hZ : Z.Warmed39 s.vm) (eT : T.heap = h) (A : AL Z h a .long xs) {j : Int32} (i : Nat) (hj : j.toInt = i) (hv : xs[i]? = some v) {g : JFrame} (hg : g.method = m) {rest : List Value} (hs : g.stack = .int j :: .ref a :: rest) (hd : decode c.code g.pc = .ok (.laload, 1)) :
    ∀ target, Steps p.tables e below (T.setTop { g with pc := g.pc + 1, stack := v :: rest }) target → Steps p.tables e below (T.setTop g) target := by
  obtain ⟨cl, A1, A2, A3⟩ := A
  obtain ⟨q1, q2⟩ := own_idx A2 hj (own_lt_len hv)
  exact X.laload hx (by rw [eT]; exact A1.1) (State.isArrayOf_alike hZ.alike A1.2.1) A1.2.2 q1 (by rw [q2, own_at A2]; exact hv) hg hs hd
theorem own_ldB (X : Stand p l e R s m args below meth c T locs cells slots) (hx : p.tables.exec = Jvm.exec) (hZ : Z.Warmed39 s.vm) (eT : T.heap = h) (A : AL Z h a .byte xs) {j : Int32} (i : Nat) (hj : j.toInt = i) (hv : xs[i]? = some v) {g : JFrame} (hg : g.method = m) {rest : List Value} (hs : g.stack = .int j :: .ref a :: rest) (hd : decode c.code g.pc = .ok (.baload, 1)) :
    ∀ target, Steps p.tables e below (T.setTop { g with pc := g.pc + 1, stack := v :: rest }) target → Steps p.tables e below (T.setTop g) target := by
  obtain ⟨cl, A1, A2, A3⟩ := A
  obtain ⟨q1, q2⟩ := own_idx A2 hj (own_lt_len hv)
  exact X.baloadBytes hx (by rw [eT]; exact A1.1) (State.isArrayOf_alike hZ.alike A1.2.1) A1.2.2 q1 (by rw [q2, own_at A2]; exact hv) hg hs hd
theorem own_ldZ (X : Stand p l e R s m args below meth c T locs cells slots) (hx : p.tables.exec = Jvm.exec) (hZ : Z.Warmed39 s.vm) (eT : T.heap = h) (A : AL Z h a .boolean xs) {j : Int32} (i : Nat) (hj : j.toInt = i) (hv : xs[i]? = some v) {g : JFrame} (hg : g.method = m) {rest : List Value} (hs : g.stack = .int j :: .ref a :: rest) (hd : decode c.code g.pc = .ok (.baload, 1)) :
    ∀ target, Steps p.tables e below (T.setTop { g with pc := g.pc + 1, stack := v :: rest }) target → Steps p.tables e below (T.setTop g) target := by
  obtain ⟨cl, A1, A2, A3⟩ := A
  obtain ⟨q1, q2⟩ := own_idx A2 hj (own_lt_len hv)
  exact X.baloadBooleans hx (by rw [eT]; exact A1.1) (State.isArrayOf_alike hZ.alike A1.2.1) A1.2.2 q1 (by rw [q2, own_at A2]; exact hv) hg hs hd
theorem own_ldC (X : Stand p l e R s m args below meth c T locs cells slots) (hx : p.tables.exec = Jvm.exec) (hZ : Z.Warmed39 s.vm) (eT : T.heap = h) (A : AL Z h a .char xs) {j : Int32} (i : Nat) (hj : j.toInt = i) (hv : xs[i]? = some v) {g : JFrame} (hg : g.method = m) {rest : List Value} (hs : g.stack = .int j :: .ref a :: rest) (hd : decode c.code g.pc = .ok (.caload, 1)) :
    ∀ target, Steps p.tables e below (T.setTop { g with pc := g.pc + 1, stack := v :: rest }) target → Steps p.tables e below (T.setTop g) target := by
  obtain ⟨cl, A1, A2, A3⟩ := A
  obtain ⟨q1, q2⟩ := own_idx A2 hj (own_lt_len hv)
  exact X.caload hx (by rw [eT]; exact A1.1) (State.isArrayOf_alike hZ.alike A1.2.1) A1.2.2 q1 (by rw [q2, own_at A2]; exact hv) hg hs hd
theorem own_ldA (X : Stand p l e R s m args below meth c T locs cells slots) (hx : p.tables.exec = Jvm.exec) (hZ : Z.Warmed39 s.vm) (eT : T.heap = h) (A : AL Z h a ty xs) (hty : ty.isReference = true) {j : Int32} (i : Nat) (hj : j.toInt = i) (hv : xs[i]? = some v) {g : JFrame} (hg : g.method = m) {rest : List Value} (hs : g.stack = .int j :: .ref a :: rest) (hd : decode c.code g.pc = .ok (.aaload, 1)) :
    ∀ target, Steps p.tables e below (T.setTop { g with pc := g.pc + 1, stack := v :: rest }) target → Steps p.tables e below (T.setTop g) target := by
  obtain ⟨cl, A1, A2, A3⟩ := A
  obtain ⟨q1, q2⟩ := own_idx A2 hj (own_lt_len hv)
  exact X.aaload hx (by rw [eT]; exact A1.1) (State.isArrayOf_alike hZ.alike A1.2.1) hty A1.2.2 q1 (by rw [q2, own_at A2]; exact hv) hg hs hd
theorem own_len (X : Stand p l e R s m args below meth c T locs cells slots) (hx : p.tables.exec = Jvm.exec) (hZ : Z.Warmed39 s.vm) (eT : T.heap = h) (A : AL Z h a ty xs) {z : Int32} (hz : z.toInt = xs.length) {g : JFrame} (hg : g.method = m) {rest : List Value} (hs : g.stack = .ref a :: rest) (hd : decode c.code g.pc = .ok (.arraylength, 1)) :
    ∀ target, Steps p.tables e below (T.setTop { g with pc := g.pc + 1, stack := .int z :: rest }) target → Steps p.tables e below (T.setTop g) target := by
  obtain ⟨cl, A1, A2, A3⟩ := A
  have h2 : cl.slots.size = xs.length := by rw [← A2]; simp
  have e1 : cl.slots.size.toInt32 = z := Int32.toInt_inj.mp (by rw [len_toInt (by omega), hz, h2])
  intro target k
  exact X.arraylength hx (by rw [eT]; exact A1.1) (State.isArrayOf_alike hZ.alike A1.2.1) hg hs hd target (by rw [e1]; exact k)
theorem AL.ofArv {k : ClassId} {z : Int32} {dv : Value} (F : Arv Z h a k ty z xs dv) (hl : z.toNatClampNeg = xs.length) : AL Z h a ty xs := by
  obtain ⟨cl, A, -, S, q, H, -⟩ := F
  have hs : cl.slots.size = xs.length := S.trans hl
  refine ⟨cl, A, ?_, by rw [← hl]; exact (back32 q).2⟩
  apply List.ext_getElem?
  intro j
  rw [← own_at (xs := cl.slots.toList) rfl]
  by_cases hj : j < xs.length
  · rw [H j (by omega)]; simp [hj]
  · rw [Array.getElem?_eq_none (by omega), List.getElem?_eq_none (by omega)]
/-! walks that load a String constant -/
abbrev OwnQW (s : State) (K N : Nat) (Q : Option Value → Heap → List Loc → Prop) : Outcome → State → Prop :=
  fun o U => ∃ v L, o = .returned v ∧ Q v U.heap L ∧ ReturnedEndW s o U L K N
theorem own_retWN {vm₁ : Vm} (X : Stand p l e R (s.setVm vm₁) m args below meth c T locs cells slots) (hx : p.tables.exec = Jvm.exec) {i : Nat} (hS : s.Since vm₁ i) (hi : i ≤ T.heap.size) {Q : Option Value → Heap → List Loc → Prop} {K N pc : Nat} {Ls : Array Slot} {z : Int32} {t : FieldType} {rest : List Value} (hret : meth.sig.returnType = some t) (ht : t = .boolean ∨ t = .byte ∨ t = .char ∨ t = .short) (hlk : meth.locks = false) (hd : decode c.code pc = .ok (.ireturn, 1))
    (hQ : Q (some (.int (nar t z))) T.heap locs) (hK : cells ≤ K) (hN : slots ≤ N) : OwnEnds p.tables e below (OwnQW s K N Q) (T.setTop (mkF m pc Ls (.int z :: rest))) := by
  obtain ⟨fs, hr, hrun, hended, h1, h2, h3, h4⟩ := X.leaveW hS hi (v := some (.int (nar t z))) (fun h => by rw [hret] at h; cases h) hlk
  exact ⟨_, _, retN X hx hret ht hd hr, hrun, hended, _, _, rfl, hQ, h1, h2, h3, h4.mono hK hN⟩
end Own

theorem own_nar1 : nar .boolean (1 : Int32) = 1 := rfl
theorem own_nar0 : nar .boolean (0 : Int32) = 0 := rfl
def own_iv (xs : List Int32) : List Value := xs.map Value.int
theorem own_iv_len (xs : List Int32) : (own_iv xs).length = xs.length := by simp [own_iv]
theorem own_iv_get {xs : List Int32} {j : Nat} (h : j < xs.length) : (own_iv xs)[j]? = some (.int (xs.getD j 0)) := by
  simp [own_iv, List.getElem?_eq_getElem h, List.getD_eq_getElem?_getD]
theorem own_iv_set (xs : List Int32) (j : Nat) (v : Int32) : (own_iv xs).set j (.int v) = own_iv (xs.set j v) := by
  simp [own_iv, List.map_set]
theorem own_iv_rep (n : Nat) : List.replicate n (Value.int (0 : Int32)) = own_iv (List.replicate n 0) := by simp [own_iv]
section Copy
open Jvm.Free.XT Jvm.Free.JA
variable {p : Program} {l : Launch} {e : Env} {R : Room} {s : State} {m : MethodId} {args : Array Value} {below : List Frame} {meth : Method} {c : Code} {T : State} {locs : List Loc} {cells slots : Nat} {Z : State} {h : Heap} {a : Addr}
theorem own_ctab {aw : Array Value} (hw : ∀ d ∈ tables_1, d.before aw Z = true) (hZ : Z.Warmed39 s.vm) : (tabOf CopyOfI.yN CopyOfI.yB 3 (some (.array .int)) CopyOfI.site).before args s = true := by
  refine (conj_holds (args := args) (first := s) (o := none) (s := s) (idx := []) _ _).mpr ⟨(mvT hZ (hw _ (List.mem_of_getElem? (i := 18) rfl))), ?_⟩
  intro d hd
  simp only [CopyOfI.site, Jvm.Free.XT.cloneW, staticW, acW, List.mem_append, List.mem_cons, List.not_mem_nil, or_false] at hd
  rcases hd with rfl | ((((rfl | rfl | rfl | rfl) | (rfl | rfl | rfl | rfl | rfl | rfl)) | (rfl | rfl)) | (rfl | rfl | rfl | rfl))
  · exact (mvT hZ (hw _ (List.mem_of_getElem? (i := 17) rfl)))
  · exact (mvT hZ (hw _ (List.mem_of_getElem? (i := 26) rfl)))
  · exact (mvT hZ (hw _ (List.mem_of_getElem? (i := 27) rfl)))
  · exact (mvA hZ (hw _ (List.mem_of_getElem? (i := 14) rfl)))
  · exact (conj_holds (args := args) (first := s) (o := none) (s := s) (idx := []) _ _).mpr ⟨(mvT hZ (hw _ (List.mem_of_getElem? (i := 10) rfl))), fun d hd => by
      simp only [Jvm.Free.JP.Math_min_II.site, List.mem_cons, List.not_mem_nil, or_false] at hd
      subst hd
      exact (mvT hZ (hw _ (List.mem_of_getElem? (i := 9) rfl)))⟩
  · exact (mvT hZ (hw _ (List.mem_of_getElem? (i := 19) rfl)))
  · exact (mvT hZ (hw _ (List.mem_of_getElem? (i := 20) rfl)))
  · exact (mvT hZ (hw _ (List.mem_of_getElem? (i := 24) rfl)))
  · exact (mvT hZ (hw _ (List.mem_of_getElem? (i := 22) rfl)))
  · exact (mvT hZ (hw _ (List.mem_of_getElem? (i := 23) rfl)))
  · exact (mvT hZ (hw _ (List.mem_of_getElem? (i := 25) rfl)))
  · exact (mvT hZ (hw _ (List.mem_of_getElem? (i := 35) rfl)))
  · exact (mvT hZ (hw _ (List.mem_of_getElem? (i := 8) rfl)))
  · exact (mvT hZ (hw _ (List.mem_of_getElem? (i := 36) rfl)))
  · exact (mvT hZ (hw _ (List.mem_of_getElem? (i := 39) rfl)))
  · exact (mvT hZ (hw _ (List.mem_of_getElem? (i := 37) rfl)))
  · exact (mvT hZ (hw _ (List.mem_of_getElem? (i := 38) rfl)))
theorem own_copyI {aw : Array Value} (hw : ∀ d ∈ tables_1, d.before aw Z = true) (hZ : Z.Warmed39 s.vm) (X : Stand p l e R s m args below meth c T locs cells slots) (hx : p.tables.exec = Jvm.exec) {own : String} {index : Nat} (hown : s.vm.findClass own = some m.cls) (h1 : (Cond.methodLink own index CopyOfI.yN).before aw Z = true) (h2 : (Cond.static CopyOfI.yN).before aw Z = true)
    (eT : T.heap = h) {xs : List Int32} (A : AL Z h a .int (own_iv xs)) (Ea : Exa Z h a "[I") {n : Nat} (hn : n ≤ xs.length) (hn6 : n ≤ 6) {g : JFrame} (hg : g.method = m) (hsize : g.locals.size = c.maxLocals) {rest : List Value} (hs : g.stack = .int (Int32.ofNat n) :: .ref a :: rest) {W : Nat} (hW : 2 * g.monitorRoom + (rest.map fun v => v.category).sum ≤ W) (hd : decode c.code g.pc = .ok (.invokestatic index, 3))
    (hfr : 2 ≤ R.frames) (hlo : W + (3 + 11) + 40 ≤ R.locals) (hc : cells + 1 ≤ R.cells) (hsl : slots + 6 ≤ R.slots) :
    ∃ T' h', Stand p l e R s m args below meth c T' locs (cells + 1) (slots + 6) ∧ T'.heap = h' ∧ Ext h h' ∧ AL Z h' h.size .int (own_iv (xs.take n)) ∧ Steps p.tables e below (T.setTop g) (T'.setTop { g with pc := g.pc + 3, stack := .ref h.size :: rest }) := by
  obtain ⟨cl, A1, A2, A3⟩ := A
  obtain ⟨cE, kE, q1, q2, q3, q4, -⟩ := Ea
  cases q1.symm.trans A1.1
  have hsz : cl.slots.size = xs.length := by rw [← Array.length_toList, A2, own_iv_len]
  have hcl : s.vm.findClass "[I" = some cl.cls := by rw [hZ.alike.findClass]; exact q2
  have hP : CopyOfI.P a cl n [Value.ref a, Value.int (Int32.ofNat n)].toArray T := by
    refine ⟨rfl, ⟨by rw [eT]; exact A1.1, State.isArrayOf_alike (hZ.alike.trans X.warmed.alike) A1.2.1, A1.2.2, by rw [hsz, ← own_iv_len]; exact A3⟩, by rw [X.warmed.alike.findClass]; exact hcl, ?_, by omega⟩
    intro i v hv
    rw [← Array.getElem?_toList, A2] at hv
    simp only [own_iv, List.getElem?_map, Option.map_eq_some_iff] at hv
    obtain ⟨z, -, rfl⟩ := hv
    rfl
  obtain ⟨v, T', X', E, st⟩ := X.callS hx (CopyOfI.law l a cl n) hown (by
    intro w hw'
    simp only [staticW, List.mem_cons, List.not_mem_nil, or_false] at hw'
    rcases hw' with rfl | rfl
    · exact mvT hZ h1
    · exact mvT hZ h2) (own_ctab hw hZ) hfr hlo hc (by omega) hg hsize (Steps.refl _) (argsL := [Value.ref a, Value.int (Int32.ofNat n)]) rfl hs hW hd hP
  obtain ⟨rfl, B, b1, b2, b3, b4, b5, b6⟩ := E
  subst eT
  have hlist : B.slots.toList = own_iv (xs.take n) := by
    apply List.ext_getElem?
    intro j
    rw [Array.getElem?_toList]
    by_cases hj : j < n
    · rw [b5 j hj, own_iv_get (by rw [List.length_take]; omega)]
      have e1 : cl.slots.getD j (defaultValue .int) = .int (xs.getD j 0) := by
        rw [Array.getD_eq_getD_getElem?, ← Array.getElem?_toList, A2, own_iv_get (by omega)]; rfl
      show some (cl.slots.getD j (defaultValue .int)) = _
      rw [e1]
      congr 2
      rw [List.getD_eq_getElem?_getD, List.getD_eq_getElem?_getD, List.getElem?_take, if_pos hj]
    · rw [Array.getElem?_eq_none (by omega), List.getElem?_eq_none (by rw [own_iv_len, List.length_take]; omega)]
  refine ⟨T', _, own_wide (by simpa using X') (Nat.le_refl _) (by omega), rfl, ⟨?_, fun z cz q => b6 z cz q⟩, ⟨B, ⟨b1.1, State.isArrayOf_alike (hZ.alike.trans X'.warmed.alike).symm b1.2.1, b1.2.2.1⟩, hlist, ?_⟩, st⟩
  · have := b1.1
    exact Nat.le_of_lt (Array.getElem?_eq_some_iff.mp this).1
  · rw [own_iv_len, List.length_take]; omega
end Copy
def own_bit (b : Bool) : Int32 := if b then 1 else 0
def own_mm : List Int32 → Int32 → Int32 → Int32 × Int32
  | [], a, b => (a, b)
  | y :: ys, a, b => own_mm ys (if y < a then y else a) (if b < y then y else b)
def own_gs (ys : List Int32) : Nat → Nat → List Int32
  | _, 0 => []
  | j, n + 1 => (ys.getD j 0 &&& 255) :: own_gs ys (j + 1) n
def own_ds (ys : List Int32) (tv : Int32) : Nat → Nat → List Bool
  | _, 0 => []
  | j, n + 1 => decide ((ys.getD j 0 &&& 255) < tv) :: own_ds ys tv (j + 1) n
def own_l2 : List Bool → List Int32 → Nat → Bool → Int32 → List Int32 × Nat × Bool
  | [], xs, ev, cb, _ => (xs, ev, cb)
  | d :: ds, xs, ev, cb, i => own_l2 ds (xs.set ev i) (if d = cb then ev else ev + 1) d (i + 1)
def own_l3 : Nat → List Int32 → Nat → Int32 → List Int32
  | 0, xs, _, _ => xs
  | n + 1, xs, j, q => own_l3 n (xs.set j (xs.getD j 0 - q)) (j + 1) (xs.getD j 0)
def own_fin (r : List Int32 × Nat × Bool) (pf pt : Int32) : List Int32 :=
  if r.2.2 then ((own_l3 (r.2.1 + 1) (r.1.set r.2.1 pt) 0 pf).set (r.2.1 + 1) 0).take (r.2.1 + 2) else (own_l3 (r.2.1 + 1) (r.1.set r.2.1 pt) 0 pf).take (r.2.1 + 1)
def own_T (r : Int32 × Int32) : Int32 := (r.1 + r.2 + 1) / 2
def own_res (ys : List Int32) (k wd f t : Nat) (pf pt : Int32) : List Int32 := own_fin (own_l2 (own_ds ys (own_T (own_mm (own_gs ys k wd) 255 0)) (k + f) (t - f)) (List.replicate (t - f + 2) 0) 0 false pf) pf pt
def own_push (r : List Int32 × Nat × Bool) (d i : Bool) : List Int32 × Nat × Bool :=
  if i then (if d = r.2.2 then (r.1.set r.2.1 (r.1.getD r.2.1 0 + 1), r.2.1, d) else (r.1.set (r.2.1 + 1) (r.1.getD (r.2.1 + 1) 0 + 1), r.2.1 + 1, d)) else r
def own_exp (r : List Int32 × Nat × Bool) : List Int32 := if r.2.2 then (r.1.set (r.2.1 + 1) 0).take (r.2.1 + 2) else r.1.take (r.2.1 + 1)
def own_min (x y : Int32) : Int32 := if y < x then y else x
def own_max (x y : Int32) : Int32 := if x < y then y else x
theorem own_main : ∀ f t : Fin 5, f.val < t.val → ∀ d0 d1 d2 d3 : Bool, own_fin (own_l2 (([d0, d1, d2, d3].drop f.val).take (t.val - f.val)) (List.replicate (t.val - f.val + 2) 0) 0 false (Int32.ofNat f.val)) (Int32.ofNat f.val) (Int32.ofNat t.val)
    = own_exp (own_push (own_push (own_push (own_push (List.replicate 6 0, 0, false) d0 (decide (f.val ≤ 0 ∧ 0 < t.val))) d1 (decide (f.val ≤ 1 ∧ 1 < t.val))) d2 (decide (f.val ≤ 2 ∧ 2 < t.val))) d3 (decide (f.val ≤ 3 ∧ 3 < t.val))) := by decide +kernel
theorem own_gb {g y : Int32} (h : g = y &&& 255) : 0 ≤ g.toInt ∧ g.toInt ≤ 255 := by
  have q := c_and y 255 (by decide)
  have e1 : (255 : Int32).toInt = 255 := rfl
  rw [h]; omega
theorem own_dark {g T : Int32} (hg : 0 ≤ g.toInt ∧ g.toInt ≤ 255) (hT : 0 ≤ T.toInt ∧ T.toInt ≤ 256) : ((g - T).toUInt32 >>> ((31 : Int32) &&& 31).toUInt32).toInt32 = own_bit (decide (g < T)) := by
  have q := c_iushr (g - T) 31 31 rfl (by decide)
  have q2 := c_isub g T
  have b1 := (g - T).toInt_lt
  have b2 := (g - T).le_toInt
  apply Int32.toInt_inj.mp
  rw [q]
  by_cases h : g < T
  · have h' := Int32.lt_iff_toInt_lt.mp h
    simp only [own_bit, h, decide_true, if_true]
    have e1 : (1 : Int32).toInt = 1 := rfl
    rw [e1]; omega
  · have h' : ¬ g.toInt < T.toInt := fun z => h (Int32.lt_iff_toInt_lt.mpr z)
    simp only [own_bit, h, decide_false, Bool.false_eq_true, if_false]
    have e1 : (0 : Int32).toInt = 0 := rfl
    rw [e1]; omega
theorem own_ofN {n : Nat} (h : n < 2147483648) : (Int32.ofNat n).toInt = n := Int32.toInt_ofNat_of_lt h
theorem own_of1 (n : Nat) : Int32.ofNat n + 1 = Int32.ofNat (n + 1) := by rw [Int32.ofNat_add]; rfl
theorem own_of2 (n : Nat) : Int32.ofNat n + 1 + 1 = Int32.ofNat (n + 2) := by rw [own_of1, own_of1]
theorem own_ofN1 {n : Nat} (h : n + 1 < 2147483648) : (Int32.ofNat n + 1).toInt = (n + 1 : Nat) := by rw [own_of1]; exact own_ofN h
theorem own_xe (n : Nat) (d cb : Bool) : Int32.ofNat n + (own_bit d ^^^ own_bit cb) = Int32.ofNat (if d = cb then n else n + 1) := by
  cases d <;> cases cb
  · show Int32.ofNat n + (0 : Int32) = _; simp
  · show Int32.ofNat n + (1 : Int32) = _; rw [own_of1]; rfl
  · show Int32.ofNat n + (1 : Int32) = _; rw [own_of1]; rfl
  · show Int32.ofNat n + (0 : Int32) = _; simp
theorem own_inc {x : Int32} {k : Nat} (h : x.toInt = k) (hk : k < 2147483647) : (x + 1).toInt = (k + 1 : Nat) := by
  have q := c_iadd x 1
  have e : (1 : Int32).toInt = 1 := rfl
  have b1 := (x + 1).toInt_lt
  have b2 := (x + 1).le_toInt
  omega
theorem own_addi {x y : Int32} {a b : Nat} (hx : x.toInt = a) (hy : y.toInt = b) (h : a + b < 2147483648) : (x + y).toInt = (a + b : Nat) := by
  have q := c_iadd x y
  have b1 := (x + y).toInt_lt
  have b2 := (x + y).le_toInt
  omega
theorem own_cnt {x y : Int32} {f t : Nat} (hf : x.toInt = f) (ht : y.toInt = t) (h1 : f < t) (h2 : t ≤ 4) : (y - x + 2).toInt = (t - f + 2 : Nat) := by
  have q1 := c_isub y x
  have q2 := c_iadd (y - x) 2
  have e : (2 : Int32).toInt = 2 := rfl
  have b1 := (y - x).toInt_lt
  have b2 := (y - x).le_toInt
  have b3 := (y - x + 2).toInt_lt
  have b4 := (y - x + 2).le_toInt
  omega
theorem own_cn {x : Int32} {n : Nat} (h : x.toInt = n) : ¬ x < 0 ∧ x.toNatClampNeg = n := by
  have e : (0 : Int32).toInt = 0 := rfl
  refine ⟨by rw [Int32.lt_iff_toInt_lt, h, e]; omega, ?_⟩
  show x.toInt.toNat = n
  omega
theorem own_Tb {a b t : Int32} (ht : t = (a + b + 1) / 2) (ha : 0 ≤ a.toInt ∧ a.toInt ≤ 255) (hb : 0 ≤ b.toInt ∧ b.toInt ≤ 255) : 0 ≤ t.toInt ∧ t.toInt ≤ 256 := by
  have q1 := c_iadd a b
  have q2 := c_iadd (a + b) 1
  have e : (1 : Int32).toInt = 1 := rfl
  have b1 := (a + b).toInt_lt
  have b2 := (a + b).le_toInt
  have b3 := (a + b + 1).toInt_lt
  have b4 := (a + b + 1).le_toInt
  have q3 := c_idiv (a + b + 1) 2 2 rfl (by decide)
  rw [← ht] at q3
  omega
theorem d2_0 : decode jdk_29_method_69_code 0 = .ok (.iload_n 0, 1) := by decide +kernel
theorem d2_1 : decode jdk_29_method_69_code 1 = .ok (.iload_n 1, 1) := by decide +kernel
theorem d2_2 : decode jdk_29_method_69_code 2 = .ok (.if_icmp .gt 7, 3) := by decide +kernel
theorem d2_5 : decode jdk_29_method_69_code 5 = .ok (.iload_n 0, 1) := by decide +kernel
theorem d2_6 : decode jdk_29_method_69_code 6 = .ok (.goto 4, 3) := by decide +kernel
theorem d2_9 : decode jdk_29_method_69_code 9 = .ok (.iload_n 1, 1) := by decide +kernel
theorem d2_10 : decode jdk_29_method_69_code 10 = .ok (.ireturn, 1) := by decide +kernel
theorem ef_2 (m : MethodId) (p0 : Int32) (p1 : Int32) : entryFrame m #[(.int p0), (.int p1)] 2 = mkF m 0 #[.val (.int p0), .val (.int p1)] [] := by first | (simp [entryFrame, mkF, argsToLocals, Value.category]; done) | rfl
def Q2 (Z : State) (p0 : Int32) (p1 : Int32) (h0 : Heap) (n0 : Nat) (v : Option Value) (h : Heap) (L : List Loc) : Prop := v = some (.int (own_min p0 p1)) ∧ Fr n0 L ∧ h = h0
set_option maxRecDepth 65536 in
set_option maxHeartbeats 40000000 in
theorem rm2 (l : Launch) (Z : State) (aw : Array Value) (hw : ∀ d ∈ tables_1, d.before aw Z = true) (ws : List Jvm.Cond) (p0 : Int32) (p1 : Int32) (h0 : Heap) (n0 : Nat) (Z0 : n0 ≤ h0.size) :
    MetFree l (⟨"java/lang/Math", "min", "(II)I"⟩ : MethodName) (head1 (Jvm.Cond.code (⟨"java/lang/Math", "min", "(II)I"⟩ : MethodName) jdk_29_method_69_code 2 (some .int) :: ws) ({ frames := 0, cells := 0, slots := 0, locals := 0 } : Room)) (fun a U => a = #[(.int p0), (.int p1)] ∧ Z.Warmed39 U.vm ∧ U.heap = h0) (fun _ _ _ _ _ => True) (fun _ U o U' => ∃ v L, o = .returned v ∧ Q2 Z p0 p1 h0 n0 v U'.heap L ∧ FrameEnd U o U' L ({ frames := 0, cells := 0, slots := 0, locals := 0 } : Room).cells ({ frames := 0, cells := 0, slots := 0, locals := 0 } : Room).slots) := by
  refine MetFree.of_bodySF (Jvm.Free.JP.mathPlain rfl (by decide +kernel)) hisR ?_
  intro p e s m args below meth c s₁ Bd hml0 hP hK
  obtain ⟨rfl, hZ, hh⟩ := hP
  have hx := Bd.exec
  have hby := Bd.bytes
  have hml : c.maxLocals = 2 := hml0
  have hown : s.vm.findClass "java/lang/Math" = some m.cls := findClass_of_methodNamed Bd.named
  have hnm := (name_of_methodNamed Bd.named Bd.method).1
  have hlk : meth.locks = false := Bd.notSynchronized
  have X0 : Stand p l e ({ frames := 0, cells := 0, slots := 0, locals := 0 } : Room) s m #[(.int p0), (.int p1)] below meth c s₁ [] 0 0 := Stand.of_body Bd
  have e0 : s₁.heap = h0 := by rw [← hh, Bd.state]; rfl
  have N0 := Fr.nil n0
  show OwnEnds p.tables e below (OwnQ s ({ frames := 0, cells := 0, slots := 0, locals := 0 } : Room).cells ({ frames := 0, cells := 0, slots := 0, locals := 0 } : Room).slots (Q2 Z p0 p1 h0 n0)) (s₁.setTop (entryFrame m #[(.int p0), (.int p1)] 2))
  refine own_via (fun t k => castTop (ef_2 m p0 p1) k) ?_
  show OwnEnds p.tables e below _ (s₁.setTop (mkF m 0 #[.val (.int p0), .val (.int p1)] []))
  refine own_via (fun t k => XS.iloadN X0.here hx rfl (hb hby d2_0) rfl k) ?_
  show OwnEnds p.tables e below _ (s₁.setTop (mkF m 1 #[.val (.int p0), .val (.int p1)] [(.int p0)]))
  refine own_via (fun t k => XS.iloadN X0.here hx rfl (hb hby d2_1) rfl k) ?_
  show OwnEnds p.tables e below _ (s₁.setTop (mkF m 2 #[.val (.int p0), .val (.int p1)] [(.int p1), (.int p0)]))
  by_cases hc2_1 : p1 < p0
  · skip
    refine own_via (fun t k => XS.icmpYes X0.here hx rfl (pc0 := 2) (pc' := 9) rfl (hb hby d2_2) rfl (tlt hc2_1).2.2.1 (by decide) (by decide) k) ?_
    show OwnEnds p.tables e below _ (s₁.setTop (mkF m 9 #[.val (.int p0), .val (.int p1)] []))
    refine own_via (fun t k => XS.iloadN X0.here hx rfl (hb hby d2_9) rfl k) ?_
    show OwnEnds p.tables e below _ (s₁.setTop (mkF m 10 #[.val (.int p0), .val (.int p1)] [(.int p1)]))
    refine own_retI X0 hx Bd.returns hlk (hb hby d2_10) ?_ (by decide) (by decide)
    rw [e0]
    exact ⟨congrArg (fun z => some (Value.int z)) (show p1 = own_min p0 p1 by simp only [own_min, if_pos hc2_1]), N0, rfl⟩
  · skip
    refine own_via (fun t k => XS.icmpNo X0.here hx rfl (hb hby d2_2) rfl (flt hc2_1).2.2.1 k) ?_
    show OwnEnds p.tables e below _ (s₁.setTop (mkF m 5 #[.val (.int p0), .val (.int p1)] []))
    refine own_via (fun t k => XS.iloadN X0.here hx rfl (hb hby d2_5) rfl k) ?_
    show OwnEnds p.tables e below _ (s₁.setTop (mkF m 6 #[.val (.int p0), .val (.int p1)] [(.int p0)]))
    refine own_via (fun t k => XS.goto X0.here hx rfl (pc0 := 6) (pc' := 10) rfl (hb hby d2_6) (by decide) (by decide) k) ?_
    show OwnEnds p.tables e below _ (s₁.setTop (mkF m 10 #[.val (.int p0), .val (.int p1)] [(.int p0)]))
    refine own_retI X0 hx Bd.returns hlk (hb hby d2_10) ?_ (by decide) (by decide)
    rw [e0]
    exact ⟨congrArg (fun z => some (Value.int z)) (show p0 = own_min p0 p1 by simp only [own_min, if_neg hc2_1]), N0, rfl⟩
theorem d3_0 : decode jdk_29_method_65_code 0 = .ok (.iload_n 0, 1) := by decide +kernel
theorem d3_1 : decode jdk_29_method_65_code 1 = .ok (.iload_n 1, 1) := by decide +kernel
theorem d3_2 : decode jdk_29_method_65_code 2 = .ok (.if_icmp .lt 7, 3) := by decide +kernel
theorem d3_5 : decode jdk_29_method_65_code 5 = .ok (.iload_n 0, 1) := by decide +kernel
theorem d3_6 : decode jdk_29_method_65_code 6 = .ok (.goto 4, 3) := by decide +kernel
theorem d3_9 : decode jdk_29_method_65_code 9 = .ok (.iload_n 1, 1) := by decide +kernel
theorem d3_10 : decode jdk_29_method_65_code 10 = .ok (.ireturn, 1) := by decide +kernel
theorem ef_3 (m : MethodId) (p0 : Int32) (p1 : Int32) : entryFrame m #[(.int p0), (.int p1)] 2 = mkF m 0 #[.val (.int p0), .val (.int p1)] [] := by first | (simp [entryFrame, mkF, argsToLocals, Value.category]; done) | rfl
def Q3 (Z : State) (p0 : Int32) (p1 : Int32) (h0 : Heap) (n0 : Nat) (v : Option Value) (h : Heap) (L : List Loc) : Prop := v = some (.int (own_max p0 p1)) ∧ Fr n0 L ∧ h = h0
set_option maxRecDepth 65536 in
set_option maxHeartbeats 40000000 in
theorem rm3 (l : Launch) (Z : State) (aw : Array Value) (hw : ∀ d ∈ tables_1, d.before aw Z = true) (ws : List Jvm.Cond) (p0 : Int32) (p1 : Int32) (h0 : Heap) (n0 : Nat) (Z0 : n0 ≤ h0.size) :
    MetFree l (⟨"java/lang/Math", "max", "(II)I"⟩ : MethodName) (head1 (Jvm.Cond.code (⟨"java/lang/Math", "max", "(II)I"⟩ : MethodName) jdk_29_method_65_code 2 (some .int) :: ws) ({ frames := 0, cells := 0, slots := 0, locals := 0 } : Room)) (fun a U => a = #[(.int p0), (.int p1)] ∧ Z.Warmed39 U.vm ∧ U.heap = h0) (fun _ _ _ _ _ => True) (fun _ U o U' => ∃ v L, o = .returned v ∧ Q3 Z p0 p1 h0 n0 v U'.heap L ∧ FrameEnd U o U' L ({ frames := 0, cells := 0, slots := 0, locals := 0 } : Room).cells ({ frames := 0, cells := 0, slots := 0, locals := 0 } : Room).slots) := by
  refine MetFree.of_bodySF (Jvm.Free.JP.mathPlain rfl (by decide +kernel)) hisR ?_
  intro p e s m args below meth c s₁ Bd hml0 hP hK
  obtain ⟨rfl, hZ, hh⟩ := hP
  have hx := Bd.exec
  have hby := Bd.bytes
  have hml : c.maxLocals = 2 := hml0
  have hown : s.vm.findClass "java/lang/Math" = some m.cls := findClass_of_methodNamed Bd.named
  have hnm := (name_of_methodNamed Bd.named Bd.method).1
  have hlk : meth.locks = false := Bd.notSynchronized
  have X0 : Stand p l e ({ frames := 0, cells := 0, slots := 0, locals := 0 } : Room) s m #[(.int p0), (.int p1)] below meth c s₁ [] 0 0 := Stand.of_body Bd
  have e0 : s₁.heap = h0 := by rw [← hh, Bd.state]; rfl
  have N0 := Fr.nil n0
  show OwnEnds p.tables e below (OwnQ s ({ frames := 0, cells := 0, slots := 0, locals := 0 } : Room).cells ({ frames := 0, cells := 0, slots := 0, locals := 0 } : Room).slots (Q3 Z p0 p1 h0 n0)) (s₁.setTop (entryFrame m #[(.int p0), (.int p1)] 2))
  refine own_via (fun t k => castTop (ef_3 m p0 p1) k) ?_
  show OwnEnds p.tables e below _ (s₁.setTop (mkF m 0 #[.val (.int p0), .val (.int p1)] []))
  refine own_via (fun t k => XS.iloadN X0.here hx rfl (hb hby d3_0) rfl k) ?_
  show OwnEnds p.tables e below _ (s₁.setTop (mkF m 1 #[.val (.int p0), .val (.int p1)] [(.int p0)]))
  refine own_via (fun t k => XS.iloadN X0.here hx rfl (hb hby d3_1) rfl k) ?_
  show OwnEnds p.tables e below _ (s₁.setTop (mkF m 2 #[.val (.int p0), .val (.int p1)] [(.int p1), (.int p0)]))
  by_cases hc2_1 : p0 < p1
  · skip
    refine own_via (fun t k => XS.icmpYes X0.here hx rfl (pc0 := 2) (pc' := 9) rfl (hb hby d3_2) rfl (tlt hc2_1).1 (by decide) (by decide) k) ?_
    show OwnEnds p.tables e below _ (s₁.setTop (mkF m 9 #[.val (.int p0), .val (.int p1)] []))
    refine own_via (fun t k => XS.iloadN X0.here hx rfl (hb hby d3_9) rfl k) ?_
    show OwnEnds p.tables e below _ (s₁.setTop (mkF m 10 #[.val (.int p0), .val (.int p1)] [(.int p1)]))
    refine own_retI X0 hx Bd.returns hlk (hb hby d3_10) ?_ (by decide) (by decide)
    rw [e0]
    exact ⟨congrArg (fun z => some (Value.int z)) (show p1 = own_max p0 p1 by simp only [own_max, if_pos hc2_1]), N0, rfl⟩
  · skip
    refine own_via (fun t k => XS.icmpNo X0.here hx rfl (hb hby d3_2) rfl (flt hc2_1).1 k) ?_
    show OwnEnds p.tables e below _ (s₁.setTop (mkF m 5 #[.val (.int p0), .val (.int p1)] []))
    refine own_via (fun t k => XS.iloadN X0.here hx rfl (hb hby d3_5) rfl k) ?_
    show OwnEnds p.tables e below _ (s₁.setTop (mkF m 6 #[.val (.int p0), .val (.int p1)] [(.int p0)]))
    refine own_via (fun t k => XS.goto X0.here hx rfl (pc0 := 6) (pc' := 10) rfl (hb hby d3_6) (by decide) (by decide) k) ?_
    show OwnEnds p.tables e below _ (s₁.setTop (mkF m 10 #[.val (.int p0), .val (.int p1)] [(.int p0)]))
    refine own_retI X0 hx Bd.returns hlk (hb hby d3_10) ?_ (by decide) (by decide)
    rw [e0]
    exact ⟨congrArg (fun z => some (Value.int z)) (show p0 = own_max p0 p1 by simp only [own_max, if_neg hc2_1]), N0, rfl⟩
theorem d1_0 : decode prog_16_method_2_code 0 = .ok (.sipush 255, 3) := by decide +kernel
theorem d1_3 : decode prog_16_method_2_code 3 = .ok (.istore 5, 2) := by decide +kernel
theorem d1_5 : decode prog_16_method_2_code 5 = .ok (.iconst 0, 1) := by decide +kernel
theorem d1_6 : decode prog_16_method_2_code 6 = .ok (.istore 6, 2) := by decide +kernel
theorem d1_8 : decode prog_16_method_2_code 8 = .ok (.iload_n 1, 1) := by decide +kernel
theorem d1_9 : decode prog_16_method_2_code 9 = .ok (.istore 7, 2) := by decide +kernel
theorem d1_11 : decode prog_16_method_2_code 11 = .ok (.iload 7, 2) := by decide +kernel
theorem d1_13 : decode prog_16_method_2_code 13 = .ok (.iload_n 1, 1) := by decide +kernel
theorem d1_14 : decode prog_16_method_2_code 14 = .ok (.iload_n 2, 1) := by decide +kernel
theorem d1_15 : decode prog_16_method_2_code 15 = .ok (.iadd, 1) := by decide +kernel
theorem d1_16 : decode prog_16_method_2_code 16 = .ok (.if_icmp .ge 41, 3) := by decide +kernel
theorem d1_19 : decode prog_16_method_2_code 19 = .ok (.aload_n 0, 1) := by decide +kernel
theorem d1_20 : decode prog_16_method_2_code 20 = .ok (.iload 7, 2) := by decide +kernel
theorem d1_22 : decode prog_16_method_2_code 22 = .ok (.baload, 1) := by decide +kernel
theorem d1_23 : decode prog_16_method_2_code 23 = .ok (.sipush 255, 3) := by decide +kernel
theorem d1_26 : decode prog_16_method_2_code 26 = .ok (.iand, 1) := by decide +kernel
theorem d1_27 : decode prog_16_method_2_code 27 = .ok (.istore 8, 2) := by decide +kernel
theorem d1_29 : decode prog_16_method_2_code 29 = .ok (.iload 8, 2) := by decide +kernel
theorem d1_31 : decode prog_16_method_2_code 31 = .ok (.iload 5, 2) := by decide +kernel
theorem d1_33 : decode prog_16_method_2_code 33 = .ok (.if_icmp .ge 7, 3) := by decide +kernel
theorem d1_36 : decode prog_16_method_2_code 36 = .ok (.iload 8, 2) := by decide +kernel
theorem d1_38 : decode prog_16_method_2_code 38 = .ok (.istore 5, 2) := by decide +kernel
theorem d1_40 : decode prog_16_method_2_code 40 = .ok (.iload 8, 2) := by decide +kernel
theorem d1_42 : decode prog_16_method_2_code 42 = .ok (.iload 6, 2) := by decide +kernel
theorem d1_44 : decode prog_16_method_2_code 44 = .ok (.if_icmp .le 7, 3) := by decide +kernel
theorem d1_47 : decode prog_16_method_2_code 47 = .ok (.iload 8, 2) := by decide +kernel
theorem d1_49 : decode prog_16_method_2_code 49 = .ok (.istore 6, 2) := by decide +kernel
theorem d1_51 : decode prog_16_method_2_code 51 = .ok (.iinc 7 1, 3) := by decide +kernel
theorem d1_54 : decode prog_16_method_2_code 54 = .ok (.goto (-43), 3) := by decide +kernel
theorem d1_57 : decode prog_16_method_2_code 57 = .ok (.iload 6, 2) := by decide +kernel
theorem d1_59 : decode prog_16_method_2_code 59 = .ok (.iload 5, 2) := by decide +kernel
theorem d1_61 : decode prog_16_method_2_code 61 = .ok (.isub, 1) := by decide +kernel
theorem d1_62 : decode prog_16_method_2_code 62 = .ok (.bipush 32, 2) := by decide +kernel
theorem d1_64 : decode prog_16_method_2_code 64 = .ok (.if_icmp .ge 7, 3) := by decide +kernel
theorem d1_67 : decode prog_16_method_2_code 67 = .ok (.getstatic 9, 3) := by decide +kernel
theorem d1_70 : decode prog_16_method_2_code 70 = .ok (.areturn, 1) := by decide +kernel
theorem d1_71 : decode prog_16_method_2_code 71 = .ok (.iload 5, 2) := by decide +kernel
theorem d1_73 : decode prog_16_method_2_code 73 = .ok (.iload 6, 2) := by decide +kernel
theorem d1_75 : decode prog_16_method_2_code 75 = .ok (.iadd, 1) := by decide +kernel
theorem d1_76 : decode prog_16_method_2_code 76 = .ok (.iconst 1, 1) := by decide +kernel
theorem d1_77 : decode prog_16_method_2_code 77 = .ok (.iadd, 1) := by decide +kernel
theorem d1_78 : decode prog_16_method_2_code 78 = .ok (.iconst 2, 1) := by decide +kernel
theorem d1_79 : decode prog_16_method_2_code 79 = .ok (.idiv, 1) := by decide +kernel
theorem d1_80 : decode prog_16_method_2_code 80 = .ok (.istore 7, 2) := by decide +kernel
theorem d1_82 : decode prog_16_method_2_code 82 = .ok (.iload 4, 2) := by decide +kernel
theorem d1_84 : decode prog_16_method_2_code 84 = .ok (.iload_n 3, 1) := by decide +kernel
theorem d1_85 : decode prog_16_method_2_code 85 = .ok (.isub, 1) := by decide +kernel
theorem d1_86 : decode prog_16_method_2_code 86 = .ok (.iconst 2, 1) := by decide +kernel
theorem d1_87 : decode prog_16_method_2_code 87 = .ok (.iadd, 1) := by decide +kernel
theorem d1_88 : decode prog_16_method_2_code 88 = .ok (.newarray .int, 2) := by decide +kernel
theorem d1_90 : decode prog_16_method_2_code 90 = .ok (.astore 8, 2) := by decide +kernel
theorem d1_92 : decode prog_16_method_2_code 92 = .ok (.iconst 0, 1) := by decide +kernel
theorem d1_93 : decode prog_16_method_2_code 93 = .ok (.istore 9, 2) := by decide +kernel
theorem d1_95 : decode prog_16_method_2_code 95 = .ok (.iconst 0, 1) := by decide +kernel
theorem d1_96 : decode prog_16_method_2_code 96 = .ok (.istore 10, 2) := by decide +kernel
theorem d1_98 : decode prog_16_method_2_code 98 = .ok (.iload_n 3, 1) := by decide +kernel
theorem d1_99 : decode prog_16_method_2_code 99 = .ok (.istore 11, 2) := by decide +kernel
theorem d1_101 : decode prog_16_method_2_code 101 = .ok (.iload 11, 2) := by decide +kernel
theorem d1_103 : decode prog_16_method_2_code 103 = .ok (.iload 4, 2) := by decide +kernel
theorem d1_105 : decode prog_16_method_2_code 105 = .ok (.if_icmp .ge 48, 3) := by decide +kernel
theorem d1_108 : decode prog_16_method_2_code 108 = .ok (.aload_n 0, 1) := by decide +kernel
theorem d1_109 : decode prog_16_method_2_code 109 = .ok (.iload_n 1, 1) := by decide +kernel
theorem d1_110 : decode prog_16_method_2_code 110 = .ok (.iload 11, 2) := by decide +kernel
theorem d1_112 : decode prog_16_method_2_code 112 = .ok (.iadd, 1) := by decide +kernel
theorem d1_113 : decode prog_16_method_2_code 113 = .ok (.baload, 1) := by decide +kernel
theorem d1_114 : decode prog_16_method_2_code 114 = .ok (.sipush 255, 3) := by decide +kernel
theorem d1_117 : decode prog_16_method_2_code 117 = .ok (.iand, 1) := by decide +kernel
theorem d1_118 : decode prog_16_method_2_code 118 = .ok (.iload 7, 2) := by decide +kernel
theorem d1_120 : decode prog_16_method_2_code 120 = .ok (.isub, 1) := by decide +kernel
theorem d1_121 : decode prog_16_method_2_code 121 = .ok (.bipush 31, 2) := by decide +kernel
theorem d1_123 : decode prog_16_method_2_code 123 = .ok (.iushr, 1) := by decide +kernel
theorem d1_124 : decode prog_16_method_2_code 124 = .ok (.istore 12, 2) := by decide +kernel
theorem d1_126 : decode prog_16_method_2_code 126 = .ok (.aload 8, 2) := by decide +kernel
theorem d1_128 : decode prog_16_method_2_code 128 = .ok (.iload 9, 2) := by decide +kernel
theorem d1_130 : decode prog_16_method_2_code 130 = .ok (.iload 11, 2) := by decide +kernel
theorem d1_132 : decode prog_16_method_2_code 132 = .ok (.iastore, 1) := by decide +kernel
theorem d1_133 : decode prog_16_method_2_code 133 = .ok (.iload 9, 2) := by decide +kernel
theorem d1_135 : decode prog_16_method_2_code 135 = .ok (.iload 12, 2) := by decide +kernel
theorem d1_137 : decode prog_16_method_2_code 137 = .ok (.iload 10, 2) := by decide +kernel
theorem d1_139 : decode prog_16_method_2_code 139 = .ok (.ixor, 1) := by decide +kernel
theorem d1_140 : decode prog_16_method_2_code 140 = .ok (.iadd, 1) := by decide +kernel
theorem d1_141 : decode prog_16_method_2_code 141 = .ok (.istore 9, 2) := by decide +kernel
theorem d1_143 : decode prog_16_method_2_code 143 = .ok (.iload 12, 2) := by decide +kernel
theorem d1_145 : decode prog_16_method_2_code 145 = .ok (.istore 10, 2) := by decide +kernel
theorem d1_147 : decode prog_16_method_2_code 147 = .ok (.iinc 11 1, 3) := by decide +kernel
theorem d1_150 : decode prog_16_method_2_code 150 = .ok (.goto (-49), 3) := by decide +kernel
theorem d1_153 : decode prog_16_method_2_code 153 = .ok (.aload 8, 2) := by decide +kernel
theorem d1_155 : decode prog_16_method_2_code 155 = .ok (.iload 9, 2) := by decide +kernel
theorem d1_157 : decode prog_16_method_2_code 157 = .ok (.iload 4, 2) := by decide +kernel
theorem d1_159 : decode prog_16_method_2_code 159 = .ok (.iastore, 1) := by decide +kernel
theorem d1_160 : decode prog_16_method_2_code 160 = .ok (.iload_n 3, 1) := by decide +kernel
theorem d1_161 : decode prog_16_method_2_code 161 = .ok (.istore 11, 2) := by decide +kernel
theorem d1_163 : decode prog_16_method_2_code 163 = .ok (.iconst 0, 1) := by decide +kernel
theorem d1_164 : decode prog_16_method_2_code 164 = .ok (.istore 12, 2) := by decide +kernel
theorem d1_166 : decode prog_16_method_2_code 166 = .ok (.iload 12, 2) := by decide +kernel
theorem d1_168 : decode prog_16_method_2_code 168 = .ok (.iload 9, 2) := by decide +kernel
theorem d1_170 : decode prog_16_method_2_code 170 = .ok (.if_icmp .gt 30, 3) := by decide +kernel
theorem d1_173 : decode prog_16_method_2_code 173 = .ok (.aload 8, 2) := by decide +kernel
theorem d1_175 : decode prog_16_method_2_code 175 = .ok (.iload 12, 2) := by decide +kernel
theorem d1_177 : decode prog_16_method_2_code 177 = .ok (.iaload, 1) := by decide +kernel
theorem d1_178 : decode prog_16_method_2_code 178 = .ok (.istore 13, 2) := by decide +kernel
theorem d1_180 : decode prog_16_method_2_code 180 = .ok (.aload 8, 2) := by decide +kernel
theorem d1_182 : decode prog_16_method_2_code 182 = .ok (.iload 12, 2) := by decide +kernel
theorem d1_184 : decode prog_16_method_2_code 184 = .ok (.iload 13, 2) := by decide +kernel
theorem d1_186 : decode prog_16_method_2_code 186 = .ok (.iload 11, 2) := by decide +kernel
theorem d1_188 : decode prog_16_method_2_code 188 = .ok (.isub, 1) := by decide +kernel
theorem d1_189 : decode prog_16_method_2_code 189 = .ok (.iastore, 1) := by decide +kernel
theorem d1_190 : decode prog_16_method_2_code 190 = .ok (.iload 13, 2) := by decide +kernel
theorem d1_192 : decode prog_16_method_2_code 192 = .ok (.istore 11, 2) := by decide +kernel
theorem d1_194 : decode prog_16_method_2_code 194 = .ok (.iinc 12 1, 3) := by decide +kernel
theorem d1_197 : decode prog_16_method_2_code 197 = .ok (.goto (-31), 3) := by decide +kernel
theorem d1_200 : decode prog_16_method_2_code 200 = .ok (.iload 9, 2) := by decide +kernel
theorem d1_202 : decode prog_16_method_2_code 202 = .ok (.iconst 1, 1) := by decide +kernel
theorem d1_203 : decode prog_16_method_2_code 203 = .ok (.iadd, 1) := by decide +kernel
theorem d1_204 : decode prog_16_method_2_code 204 = .ok (.istore 12, 2) := by decide +kernel
theorem d1_206 : decode prog_16_method_2_code 206 = .ok (.iload 10, 2) := by decide +kernel
theorem d1_208 : decode prog_16_method_2_code 208 = .ok (.iconst 1, 1) := by decide +kernel
theorem d1_209 : decode prog_16_method_2_code 209 = .ok (.if_icmp .ne 12, 3) := by decide +kernel
theorem d1_212 : decode prog_16_method_2_code 212 = .ok (.aload 8, 2) := by decide +kernel
theorem d1_214 : decode prog_16_method_2_code 214 = .ok (.iload 12, 2) := by decide +kernel
theorem d1_216 : decode prog_16_method_2_code 216 = .ok (.iinc 12 1, 3) := by decide +kernel
theorem d1_219 : decode prog_16_method_2_code 219 = .ok (.iconst 0, 1) := by decide +kernel
theorem d1_220 : decode prog_16_method_2_code 220 = .ok (.iastore, 1) := by decide +kernel
theorem d1_221 : decode prog_16_method_2_code 221 = .ok (.aload 8, 2) := by decide +kernel
theorem d1_223 : decode prog_16_method_2_code 223 = .ok (.iload 12, 2) := by decide +kernel
theorem d1_225 : decode prog_16_method_2_code 225 = .ok (.invokestatic 13, 3) := by decide +kernel
theorem d1_228 : decode prog_16_method_2_code 228 = .ok (.areturn, 1) := by decide +kernel
theorem pn_0 : plainName "com/example/shelfmark/shelfmark/Scanline" = true := by first | (simp [plainName, overriddenIn]; done) | decide +kernel
theorem ef_1a (m : MethodId) (a0 : Addr) (p1 : Int32) (p2 : Int32) (p3 : Int32) (p4 : Int32) : entryFrame m #[(.ref a0), (.int p1), (.int p2), (.int p3), (.int p4)] 14 = mkF m 0 #[.val (.ref a0), .val (.int p1), .val (.int p2), .val (.int p3), .val (.int p4), .unset, .unset, .unset, .unset, .unset, .unset, .unset, .unset, .unset] [] := by first | (simp [entryFrame, mkF, argsToLocals, Value.category]; done) | rfl
def Q1a (Z : State) (a0 : Addr) (p1 : Int32) (p2 : Int32) (p3 : Int32) (p4 : Int32) (ys : List Int32) (k : Nat) (wd : Nat) (fN : Nat) (tN : Nat) (na : Addr) (h0 : Heap) (n0 : Nat) (v : Option Value) (h : Heap) (L : List Loc) : Prop := v = some (.ref na) ∧ Fr n0 L ∧ h = h0
set_option maxRecDepth 65536 in
set_option maxHeartbeats 40000000 in
theorem rm1a (l : Launch) (Z : State) (aw : Array Value) (hw : ∀ d ∈ tables_1, d.before aw Z = true) (ws : List Jvm.Cond) (a0 : Addr) (p1 : Int32) (p2 : Int32) (p3 : Int32) (p4 : Int32) (ys : List Int32) (k : Nat) (wd : Nat) (fN : Nat) (tN : Nat) (na : Addr) (h0 : Heap) (n0 : Nat) (Z0 : n0 ≤ h0.size) (A_a0 : AL Z h0 a0 .byte (own_iv ys)) (S_ne : Sta Z Z.heap "com/example/shelfmark/shelfmark/Scanline" "NO_ELEMENTS" "[I" (.ref na)) (hk : p1.toInt = k) (hwd : p2.toInt = wd) (hfN : p3.toInt = fN) (htN : p4.toInt = tN) (hlen : ys.length = 5) (hkw : k + wd ≤ 5) (hw4 : wd ≤ 4) (hft : fN < tN) (htw : tN ≤ wd) (hlt : (own_mm (own_gs ys k wd) 255 0).2 - (own_mm (own_gs ys k wd) 255 0).1 < 32) (O0 : Old Z n0 h0) :
    MetFree l (⟨"com/example/shelfmark/shelfmark/Scanline", "elements", "([BIIII)[I"⟩ : MethodName) (head1 (Jvm.Cond.code (⟨"com/example/shelfmark/shelfmark/Scanline", "elements", "([BIIII)[I"⟩ : MethodName) prog_16_method_2_code 14 (some (.array .int)) :: ws) ({ frames := 0, cells := 0, slots := 0, locals := 0 } : Room)) (fun a U => a = #[(.ref a0), (.int p1), (.int p2), (.int p3), (.int p4)] ∧ Z.Warmed39 U.vm ∧ U.heap = h0) (fun _ _ _ _ _ => True) (fun _ U o U' => ∃ v L, o = .returned v ∧ Q1a Z a0 p1 p2 p3 p4 ys k wd fN tN na h0 n0 v U'.heap L ∧ FrameEnd U o U' L ({ frames := 0, cells := 0, slots := 0, locals := 0 } : Room).cells ({ frames := 0, cells := 0, slots := 0, locals := 0 } : Room).slots) := by
  refine MetFree.of_bodySF (plainFor_of_name pn_0) hisR ?_
  intro p e s m args below meth c s₁ Bd hml0 hP hK
  obtain ⟨rfl, hZ, hh⟩ := hP
  have hx := Bd.exec
  have hby := Bd.bytes
  have hml : c.maxLocals = 14 := hml0
  have hown : s.vm.findClass "com/example/shelfmark/shelfmark/Scanline" = some m.cls := findClass_of_methodNamed Bd.named
  have hnm := (name_of_methodNamed Bd.named Bd.method).1
  have hlk : meth.locks = false := Bd.notSynchronized
  have X0 : Stand p l e ({ frames := 0, cells := 0, slots := 0, locals := 0 } : Room) s m #[(.ref a0), (.int p1), (.int p2), (.int p3), (.int p4)] below meth c s₁ [] 0 0 := Stand.of_body Bd
  have e0 : s₁.heap = h0 := by rw [← hh, Bd.state]; rfl
  have N0 := Fr.nil n0
  show OwnEnds p.tables e below (OwnQ s ({ frames := 0, cells := 0, slots := 0, locals := 0 } : Room).cells ({ frames := 0, cells := 0, slots := 0, locals := 0 } : Room).slots (Q1a Z a0 p1 p2 p3 p4 ys k wd fN tN na h0 n0)) (s₁.setTop (entryFrame m #[(.ref a0), (.int p1), (.int p2), (.int p3), (.int p4)] 14))
  refine own_via (fun t k => castTop (ef_1a m a0 p1 p2 p3 p4) k) ?_
  show OwnEnds p.tables e below _ (s₁.setTop (mkF m 0 #[.val (.ref a0), .val (.int p1), .val (.int p2), .val (.int p3), .val (.int p4), .unset, .unset, .unset, .unset, .unset, .unset, .unset, .unset, .unset] []))
  refine own_via (fun t k => XS.sipush X0.here hx rfl (hb hby d1_0) k) ?_
  show OwnEnds p.tables e below _ (s₁.setTop (mkF m 3 #[.val (.ref a0), .val (.int p1), .val (.int p2), .val (.int p3), .val (.int p4), .unset, .unset, .unset, .unset, .unset, .unset, .unset, .unset, .unset] [(.int (255 : Int32))]))
  refine own_via (fun t k => XS.istore X0.here hx rfl (hb hby d1_3) rfl (l' := #[.val (.ref a0), .val (.int p1), .val (.int p2), .val (.int p3), .val (.int p4), .val (.int (255 : Int32)), .unset, .unset, .unset, .unset, .unset, .unset, .unset, .unset]) rfl k) ?_
  show OwnEnds p.tables e below _ (s₁.setTop (mkF m 5 #[.val (.ref a0), .val (.int p1), .val (.int p2), .val (.int p3), .val (.int p4), .val (.int (255 : Int32)), .unset, .unset, .unset, .unset, .unset, .unset, .unset, .unset] []))
  refine own_via (fun t k => XS.iconst X0.here hx rfl (hb hby d1_5) k) ?_
  show OwnEnds p.tables e below _ (s₁.setTop (mkF m 6 #[.val (.ref a0), .val (.int p1), .val (.int p2), .val (.int p3), .val (.int p4), .val (.int (255 : Int32)), .unset, .unset, .unset, .unset, .unset, .unset, .unset, .unset] [(.int (0 : Int32))]))
  refine own_via (fun t k => XS.istore X0.here hx rfl (hb hby d1_6) rfl (l' := #[.val (.ref a0), .val (.int p1), .val (.int p2), .val (.int p3), .val (.int p4), .val (.int (255 : Int32)), .val (.int (0 : Int32)), .unset, .unset, .unset, .unset, .unset, .unset, .unset]) rfl k) ?_
  show OwnEnds p.tables e below _ (s₁.setTop (mkF m 8 #[.val (.ref a0), .val (.int p1), .val (.int p2), .val (.int p3), .val (.int p4), .val (.int (255 : Int32)), .val (.int (0 : Int32)), .unset, .unset, .unset, .unset, .unset, .unset, .unset] []))
  refine own_via (fun t k => XS.iloadN X0.here hx rfl (hb hby d1_8) rfl k) ?_
  show OwnEnds p.tables e below _ (s₁.setTop (mkF m 9 #[.val (.ref a0), .val (.int p1), .val (.int p2), .val (.int p3), .val (.int p4), .val (.int (255 : Int32)), .val (.int (0 : Int32)), .unset, .unset, .unset, .unset, .unset, .unset, .unset] [(.int p1)]))
  refine own_via (fun t k => XS.istore X0.here hx rfl (hb hby d1_9) rfl (l' := #[.val (.ref a0), .val (.int p1), .val (.int p2), .val (.int p3), .val (.int p4), .val (.int (255 : Int32)), .val (.int (0 : Int32)), .val (.int p1), .unset, .unset, .unset, .unset, .unset, .unset]) rfl k) ?_
  show OwnEnds p.tables e below _ (s₁.setTop (mkF m 11 #[.val (.ref a0), .val (.int p1), .val (.int p2), .val (.int p3), .val (.int p4), .val (.int (255 : Int32)), .val (.int (0 : Int32)), .val (.int p1), .unset, .unset, .unset, .unset, .unset, .unset] []))
  have hsum := own_addi hk hwd (by omega)
  have loop : ∀ (n jN : Nat) (mn mx jv : Int32) (sl8 : Slot) (TL : State) (locsL : List Loc), jN + n = k + wd → jv.toInt = jN → own_mm (own_gs ys jN n) mn mx = (own_mm (own_gs ys k wd) 255 0) → ((0 ≤ mn.toInt ∧ mn.toInt ≤ 255) ∧ (0 ≤ mx.toInt ∧ mx.toInt ≤ 255)) → (sl8 = .unset ∨ ∃ w, sl8 = .val w ∧ w.category = 1) → Stand p l e ({ frames := 0, cells := 0, slots := 0, locals := 0 } : Room) s m #[(.ref a0), (.int p1), (.int p2), (.int p3), (.int p4)] below meth c TL locsL 0 0 → TL.heap = h0 → Fr n0 locsL → OwnEnds p.tables e below (OwnQ s ({ frames := 0, cells := 0, slots := 0, locals := 0 } : Room).cells ({ frames := 0, cells := 0, slots := 0, locals := 0 } : Room).slots (Q1a Z a0 p1 p2 p3 p4 ys k wd fN tN na h0 n0)) (TL.setTop (mkF m 11 #[.val (.ref a0), .val (.int p1), .val (.int p2), .val (.int p3), .val (.int p4), .val (.int mn), .val (.int mx), .val (.int jv), sl8, .unset, .unset, .unset, .unset, .unset] [])) := by
    intro n
    induction n with
    | succ n ih =>
      intro jN mn mx jv sl8 TL locsL hjn hjv hmm hbd one_sl8 XL eL NL
      have hless : jv < p1 + p2 := by rw [Int32.lt_iff_toInt_lt, hsum, hjv]; omega
      show OwnEnds p.tables e below _ (TL.setTop (mkF m 11 #[.val (.ref a0), .val (.int p1), .val (.int p2), .val (.int p3), .val (.int p4), .val (.int mn), .val (.int mx), .val (.int jv), sl8, .unset, .unset, .unset, .unset, .unset] []))
      refine own_via (fun t k => XS.iload XL.here hx rfl (hb hby d1_11) rfl k) ?_
      show OwnEnds p.tables e below _ (TL.setTop (mkF m 13 #[.val (.ref a0), .val (.int p1), .val (.int p2), .val (.int p3), .val (.int p4), .val (.int mn), .val (.int mx), .val (.int jv), sl8, .unset, .unset, .unset, .unset, .unset] [(.int jv)]))
      refine own_via (fun t k => XS.iloadN XL.here hx rfl (hb hby d1_13) rfl k) ?_
      show OwnEnds p.tables e below _ (TL.setTop (mkF m 14 #[.val (.ref a0), .val (.int p1), .val (.int p2), .val (.int p3), .val (.int p4), .val (.int mn), .val (.int mx), .val (.int jv), sl8, .unset, .unset, .unset, .unset, .unset] [(.int p1), (.int jv)]))
      refine own_via (fun t k => XS.iloadN XL.here hx rfl (hb hby d1_14) rfl k) ?_
      show OwnEnds p.tables e below _ (TL.setTop (mkF m 15 #[.val (.ref a0), .val (.int p1), .val (.int p2), .val (.int p3), .val (.int p4), .val (.int mn), .val (.int mx), .val (.int jv), sl8, .unset, .unset, .unset, .unset, .unset] [(.int p2), (.int p1), (.int jv)]))
      refine own_via (fun t k => XS.iadd XL.here hx rfl (hb hby d1_15) rfl k) ?_
      show OwnEnds p.tables e below _ (TL.setTop (mkF m 16 #[.val (.ref a0), .val (.int p1), .val (.int p2), .val (.int p3), .val (.int p4), .val (.int mn), .val (.int mx), .val (.int jv), sl8, .unset, .unset, .unset, .unset, .unset] [(.int (p1 + p2)), (.int jv)]))
      have hc16_1 : jv < (p1 + p2) := hless
      refine own_via (fun t k => XS.icmpNo XL.here hx rfl (hb hby d1_16) rfl (tlt hc16_1).2.1 k) ?_
      show OwnEnds p.tables e below _ (TL.setTop (mkF m 19 #[.val (.ref a0), .val (.int p1), .val (.int p2), .val (.int p3), .val (.int p4), .val (.int mn), .val (.int mx), .val (.int jv), sl8, .unset, .unset, .unset, .unset, .unset] []))
      refine own_via (fun t k => XS.aloadN XL.here hx rfl (hb hby d1_19) rfl rfl k) ?_
      show OwnEnds p.tables e below _ (TL.setTop (mkF m 20 #[.val (.ref a0), .val (.int p1), .val (.int p2), .val (.int p3), .val (.int p4), .val (.int mn), .val (.int mx), .val (.int jv), sl8, .unset, .unset, .unset, .unset, .unset] [(.ref a0)]))
      refine own_via (fun t k => XS.iload XL.here hx rfl (hb hby d1_20) rfl k) ?_
      show OwnEnds p.tables e below _ (TL.setTop (mkF m 22 #[.val (.ref a0), .val (.int p1), .val (.int p2), .val (.int p3), .val (.int p4), .val (.int mn), .val (.int mx), .val (.int jv), sl8, .unset, .unset, .unset, .unset, .unset] [(.int jv), (.ref a0)]))
      refine own_via (own_ldB XL hx hZ eL A_a0 (v := (.int (ys.getD jN 0))) jN hjv (own_iv_get (by omega)) (g := (mkF m 22 #[.val (.ref a0), .val (.int p1), .val (.int p2), .val (.int p3), .val (.int p4), .val (.int mn), .val (.int mx), .val (.int jv), sl8, .unset, .unset, .unset, .unset, .unset] [(.int jv), (.ref a0)])) rfl rfl (hb hby d1_22)) ?_
      show OwnEnds p.tables e below _ (TL.setTop (mkF m 23 #[.val (.ref a0), .val (.int p1), .val (.int p2), .val (.int p3), .val (.int p4), .val (.int mn), .val (.int mx), .val (.int jv), sl8, .unset, .unset, .unset, .unset, .unset] [(.int (ys.getD jN 0))]))
      refine own_via (fun t k => XS.sipush XL.here hx rfl (hb hby d1_23) k) ?_
      show OwnEnds p.tables e below _ (TL.setTop (mkF m 26 #[.val (.ref a0), .val (.int p1), .val (.int p2), .val (.int p3), .val (.int p4), .val (.int mn), .val (.int mx), .val (.int jv), sl8, .unset, .unset, .unset, .unset, .unset] [(.int (255 : Int32)), (.int (ys.getD jN 0))]))
      refine own_via (fun t k => XS.iand XL.here hx rfl (hb hby d1_26) rfl k) ?_
      show OwnEnds p.tables e below _ (TL.setTop (mkF m 27 #[.val (.ref a0), .val (.int p1), .val (.int p2), .val (.int p3), .val (.int p4), .val (.int mn), .val (.int mx), .val (.int jv), sl8, .unset, .unset, .unset, .unset, .unset] [(.int ((ys.getD jN 0) &&& (255 : Int32)))]))
      obtain ⟨gy, h_gy⟩ : ∃ z, z = ((ys.getD jN 0) &&& (255 : Int32)) := ⟨_, rfl⟩
      rw [← h_gy]
      refine own_via (fun t k => XS.istore XL.here hx rfl (hb hby d1_27) rfl (l' := #[.val (.ref a0), .val (.int p1), .val (.int p2), .val (.int p3), .val (.int p4), .val (.int mn), .val (.int mx), .val (.int jv), .val (.int gy), .unset, .unset, .unset, .unset, .unset]) (XS.store1 rfl one_sl8 rfl) k) ?_
      show OwnEnds p.tables e below _ (TL.setTop (mkF m 29 #[.val (.ref a0), .val (.int p1), .val (.int p2), .val (.int p3), .val (.int p4), .val (.int mn), .val (.int mx), .val (.int jv), .val (.int gy), .unset, .unset, .unset, .unset, .unset] []))
      refine own_via (fun t k => XS.iload XL.here hx rfl (hb hby d1_29) rfl k) ?_
      show OwnEnds p.tables e below _ (TL.setTop (mkF m 31 #[.val (.ref a0), .val (.int p1), .val (.int p2), .val (.int p3), .val (.int p4), .val (.int mn), .val (.int mx), .val (.int jv), .val (.int gy), .unset, .unset, .unset, .unset, .unset] [(.int gy)]))
      refine own_via (fun t k => XS.iload XL.here hx rfl (hb hby d1_31) rfl k) ?_
      show OwnEnds p.tables e below _ (TL.setTop (mkF m 33 #[.val (.ref a0), .val (.int p1), .val (.int p2), .val (.int p3), .val (.int p4), .val (.int mn), .val (.int mx), .val (.int jv), .val (.int gy), .unset, .unset, .unset, .unset, .unset] [(.int mn), (.int gy)]))
      by_cases hc33_2 : gy < mn
      · skip
        refine own_via (fun t k => XS.icmpNo XL.here hx rfl (hb hby d1_33) rfl (tlt hc33_2).2.1 k) ?_
        show OwnEnds p.tables e below _ (TL.setTop (mkF m 36 #[.val (.ref a0), .val (.int p1), .val (.int p2), .val (.int p3), .val (.int p4), .val (.int mn), .val (.int mx), .val (.int jv), .val (.int gy), .unset, .unset, .unset, .unset, .unset] []))
        refine own_via (fun t k => XS.iload XL.here hx rfl (hb hby d1_36) rfl k) ?_
        show OwnEnds p.tables e below _ (TL.setTop (mkF m 38 #[.val (.ref a0), .val (.int p1), .val (.int p2), .val (.int p3), .val (.int p4), .val (.int mn), .val (.int mx), .val (.int jv), .val (.int gy), .unset, .unset, .unset, .unset, .unset] [(.int gy)]))
        refine own_via (fun t k => XS.istore XL.here hx rfl (hb hby d1_38) rfl (l' := #[.val (.ref a0), .val (.int p1), .val (.int p2), .val (.int p3), .val (.int p4), .val (.int gy), .val (.int mx), .val (.int jv), .val (.int gy), .unset, .unset, .unset, .unset, .unset]) rfl k) ?_
        show OwnEnds p.tables e below _ (TL.setTop (mkF m 40 #[.val (.ref a0), .val (.int p1), .val (.int p2), .val (.int p3), .val (.int p4), .val (.int gy), .val (.int mx), .val (.int jv), .val (.int gy), .unset, .unset, .unset, .unset, .unset] []))
        refine own_via (fun t k => XS.iload XL.here hx rfl (hb hby d1_40) rfl k) ?_
        show OwnEnds p.tables e below _ (TL.setTop (mkF m 42 #[.val (.ref a0), .val (.int p1), .val (.int p2), .val (.int p3), .val (.int p4), .val (.int gy), .val (.int mx), .val (.int jv), .val (.int gy), .unset, .unset, .unset, .unset, .unset] [(.int gy)]))
        refine own_via (fun t k => XS.iload XL.here hx rfl (hb hby d1_42) rfl k) ?_
        show OwnEnds p.tables e below _ (TL.setTop (mkF m 44 #[.val (.ref a0), .val (.int p1), .val (.int p2), .val (.int p3), .val (.int p4), .val (.int gy), .val (.int mx), .val (.int jv), .val (.int gy), .unset, .unset, .unset, .unset, .unset] [(.int mx), (.int gy)]))
        by_cases hc44_3 : mx < gy
        · skip
          refine own_via (fun t k => XS.icmpNo XL.here hx rfl (hb hby d1_44) rfl (tlt hc44_3).2.2.2 k) ?_
          show OwnEnds p.tables e below _ (TL.setTop (mkF m 47 #[.val (.ref a0), .val (.int p1), .val (.int p2), .val (.int p3), .val (.int p4), .val (.int gy), .val (.int mx), .val (.int jv), .val (.int gy), .unset, .unset, .unset, .unset, .unset] []))
          refine own_via (fun t k => XS.iload XL.here hx rfl (hb hby d1_47) rfl k) ?_
          show OwnEnds p.tables e below _ (TL.setTop (mkF m 49 #[.val (.ref a0), .val (.int p1), .val (.int p2), .val (.int p3), .val (.int p4), .val (.int gy), .val (.int mx), .val (.int jv), .val (.int gy), .unset, .unset, .unset, .unset, .unset] [(.int gy)]))
          refine own_via (fun t k => XS.istore XL.here hx rfl (hb hby d1_49) rfl (l' := #[.val (.ref a0), .val (.int p1), .val (.int p2), .val (.int p3), .val (.int p4), .val (.int gy), .val (.int gy), .val (.int jv), .val (.int gy), .unset, .unset, .unset, .unset, .unset]) rfl k) ?_
          show OwnEnds p.tables e below _ (TL.setTop (mkF m 51 #[.val (.ref a0), .val (.int p1), .val (.int p2), .val (.int p3), .val (.int p4), .val (.int gy), .val (.int gy), .val (.int jv), .val (.int gy), .unset, .unset, .unset, .unset, .unset] []))
          refine own_via (fun t k => XS.iinc XL.here hx rfl (hb hby d1_51) rfl (l' := #[.val (.ref a0), .val (.int p1), .val (.int p2), .val (.int p3), .val (.int p4), .val (.int gy), .val (.int gy), .val (.int (jv + (1 : Int32))), .val (.int gy), .unset, .unset, .unset, .unset, .unset]) rfl k) ?_
          show OwnEnds p.tables e below _ (TL.setTop (mkF m 54 #[.val (.ref a0), .val (.int p1), .val (.int p2), .val (.int p3), .val (.int p4), .val (.int gy), .val (.int gy), .val (.int (jv + (1 : Int32))), .val (.int gy), .unset, .unset, .unset, .unset, .unset] []))
          refine own_via (fun t k => XS.goto XL.here hx rfl (pc0 := 54) (pc' := 11) rfl (hb hby d1_54) (by decide) (by decide) k) ?_
          show OwnEnds p.tables e below _ (TL.setTop (mkF m 11 #[.val (.ref a0), .val (.int p1), .val (.int p2), .val (.int p3), .val (.int p4), .val (.int gy), .val (.int gy), .val (.int (jv + (1 : Int32))), .val (.int gy), .unset, .unset, .unset, .unset, .unset] []))
          exact ih (jN + 1) _ _ (jv + 1) _ _ _ (by omega) (own_inc hjv (by omega)) (by rw [← hmm]; simp only [own_gs, own_mm, ← h_gy, if_pos hc33_2, if_pos hc44_3]) ⟨own_gb h_gy, own_gb h_gy⟩ (Or.inr ⟨_, rfl, rfl⟩) XL eL NL
        · skip
          refine own_via (fun t k => XS.icmpYes XL.here hx rfl (pc0 := 44) (pc' := 51) rfl (hb hby d1_44) rfl (flt hc44_3).2.2.2 (by decide) (by decide) k) ?_
          show OwnEnds p.tables e below _ (TL.setTop (mkF m 51 #[.val (.ref a0), .val (.int p1), .val (.int p2), .val (.int p3), .val (.int p4), .val (.int gy), .val (.int mx), .val (.int jv), .val (.int gy), .unset, .unset, .unset, .unset, .unset] []))
          refine own_via (fun t k => XS.iinc XL.here hx rfl (hb hby d1_51) rfl (l' := #[.val (.ref a0), .val (.int p1), .val (.int p2), .val (.int p3), .val (.int p4), .val (.int gy), .val (.int mx), .val (.int (jv + (1 : Int32))), .val (.int gy), .unset, .unset, .unset, .unset, .unset]) rfl k) ?_
          show OwnEnds p.tables e below _ (TL.setTop (mkF m 54 #[.val (.ref a0), .val (.int p1), .val (.int p2), .val (.int p3), .val (.int p4), .val (.int gy), .val (.int mx), .val (.int (jv + (1 : Int32))), .val (.int gy), .unset, .unset, .unset, .unset, .unset] []))
          refine own_via (fun t k => XS.goto XL.here hx rfl (pc0 := 54) (pc' := 11) rfl (hb hby d1_54) (by decide) (by decide) k) ?_
          show OwnEnds p.tables e below _ (TL.setTop (mkF m 11 #[.val (.ref a0), .val (.int p1), .val (.int p2), .val (.int p3), .val (.int p4), .val (.int gy), .val (.int mx), .val (.int (jv + (1 : Int32))), .val (.int gy), .unset, .unset, .unset, .unset, .unset] []))
          exact ih (jN + 1) _ _ (jv + 1) _ _ _ (by omega) (own_inc hjv (by omega)) (by rw [← hmm]; simp only [own_gs, own_mm, ← h_gy, if_pos hc33_2, if_neg hc44_3]) ⟨own_gb h_gy, hbd.2⟩ (Or.inr ⟨_, rfl, rfl⟩) XL eL NL
      · skip
        refine own_via (fun t k => XS.icmpYes XL.here hx rfl (pc0 := 33) (pc' := 40) rfl (hb hby d1_33) rfl (flt hc33_2).2.1 (by decide) (by decide) k) ?_
        show OwnEnds p.tables e below _ (TL.setTop (mkF m 40 #[.val (.ref a0), .val (.int p1), .val (.int p2), .val (.int p3), .val (.int p4), .val (.int mn), .val (.int mx), .val (.int jv), .val (.int gy), .unset, .unset, .unset, .unset, .unset] []))
        refine own_via (fun t k => XS.iload XL.here hx rfl (hb hby d1_40) rfl k) ?_
        show OwnEnds p.tables e below _ (TL.setTop (mkF m 42 #[.val (.ref a0), .val (.int p1), .val (.int p2), .val (.int p3), .val (.int p4), .val (.int mn), .val (.int mx), .val (.int jv), .val (.int gy), .unset, .unset, .unset, .unset, .unset] [(.int gy)]))
        refine own_via (fun t k => XS.iload XL.here hx rfl (hb hby d1_42) rfl k) ?_
        show OwnEnds p.tables e below _ (TL.setTop (mkF m 44 #[.val (.ref a0), .val (.int p1), .val (.int p2), .val (.int p3), .val (.int p4), .val (.int mn), .val (.int mx), .val (.int jv), .val (.int gy), .unset, .unset, .unset, .unset, .unset] [(.int mx), (.int gy)]))
        by_cases hc44_4 : mx < gy
        · skip
          refine own_via (fun t k => XS.icmpNo XL.here hx rfl (hb hby d1_44) rfl (tlt hc44_4).2.2.2 k) ?_
          show OwnEnds p.tables e below _ (TL.setTop (mkF m 47 #[.val (.ref a0), .val (.int p1), .val (.int p2), .val (.int p3), .val (.int p4), .val (.int mn), .val (.int mx), .val (.int jv), .val (.int gy), .unset, .unset, .unset, .unset, .unset] []))
          refine own_via (fun t k => XS.iload XL.here hx rfl (hb hby d1_47) rfl k) ?_
          show OwnEnds p.tables e below _ (TL.setTop (mkF m 49 #[.val (.ref a0), .val (.int p1), .val (.int p2), .val (.int p3), .val (.int p4), .val (.int mn), .val (.int mx), .val (.int jv), .val (.int gy), .unset, .unset, .unset, .unset, .unset] [(.int gy)]))
          refine own_via (fun t k => XS.istore XL.here hx rfl (hb hby d1_49) rfl (l' := #[.val (.ref a0), .val (.int p1), .val (.int p2), .val (.int p3), .val (.int p4), .val (.int mn), .val (.int gy), .val (.int jv), .val (.int gy), .unset, .unset, .unset, .unset, .unset]) rfl k) ?_
          show OwnEnds p.tables e below _ (TL.setTop (mkF m 51 #[.val (.ref a0), .val (.int p1), .val (.int p2), .val (.int p3), .val (.int p4), .val (.int mn), .val (.int gy), .val (.int jv), .val (.int gy), .unset, .unset, .unset, .unset, .unset] []))
          refine own_via (fun t k => XS.iinc XL.here hx rfl (hb hby d1_51) rfl (l' := #[.val (.ref a0), .val (.int p1), .val (.int p2), .val (.int p3), .val (.int p4), .val (.int mn), .val (.int gy), .val (.int (jv + (1 : Int32))), .val (.int gy), .unset, .unset, .unset, .unset, .unset]) rfl k) ?_
          show OwnEnds p.tables e below _ (TL.setTop (mkF m 54 #[.val (.ref a0), .val (.int p1), .val (.int p2), .val (.int p3), .val (.int p4), .val (.int mn), .val (.int gy), .val (.int (jv + (1 : Int32))), .val (.int gy), .unset, .unset, .unset, .unset, .unset] []))
          refine own_via (fun t k => XS.goto XL.here hx rfl (pc0 := 54) (pc' := 11) rfl (hb hby d1_54) (by decide) (by decide) k) ?_
          show OwnEnds p.tables e below _ (TL.setTop (mkF m 11 #[.val (.ref a0), .val (.int p1), .val (.int p2), .val (.int p3), .val (.int p4), .val (.int mn), .val (.int gy), .val (.int (jv + (1 : Int32))), .val (.int gy), .unset, .unset, .unset, .unset, .unset] []))
          exact ih (jN + 1) _ _ (jv + 1) _ _ _ (by omega) (own_inc hjv (by omega)) (by rw [← hmm]; simp only [own_gs, own_mm, ← h_gy, if_neg hc33_2, if_pos hc44_4]) ⟨hbd.1, own_gb h_gy⟩ (Or.inr ⟨_, rfl, rfl⟩) XL eL NL
        · skip
          refine own_via (fun t k => XS.icmpYes XL.here hx rfl (pc0 := 44) (pc' := 51) rfl (hb hby d1_44) rfl (flt hc44_4).2.2.2 (by decide) (by decide) k) ?_
          show OwnEnds p.tables e below _ (TL.setTop (mkF m 51 #[.val (.ref a0), .val (.int p1), .val (.int p2), .val (.int p3), .val (.int p4), .val (.int mn), .val (.int mx), .val (.int jv), .val (.int gy), .unset, .unset, .unset, .unset, .unset] []))
          refine own_via (fun t k => XS.iinc XL.here hx rfl (hb hby d1_51) rfl (l' := #[.val (.ref a0), .val (.int p1), .val (.int p2), .val (.int p3), .val (.int p4), .val (.int mn), .val (.int mx), .val (.int (jv + (1 : Int32))), .val (.int gy), .unset, .unset, .unset, .unset, .unset]) rfl k) ?_
          show OwnEnds p.tables e below _ (TL.setTop (mkF m 54 #[.val (.ref a0), .val (.int p1), .val (.int p2), .val (.int p3), .val (.int p4), .val (.int mn), .val (.int mx), .val (.int (jv + (1 : Int32))), .val (.int gy), .unset, .unset, .unset, .unset, .unset] []))
          refine own_via (fun t k => XS.goto XL.here hx rfl (pc0 := 54) (pc' := 11) rfl (hb hby d1_54) (by decide) (by decide) k) ?_
          show OwnEnds p.tables e below _ (TL.setTop (mkF m 11 #[.val (.ref a0), .val (.int p1), .val (.int p2), .val (.int p3), .val (.int p4), .val (.int mn), .val (.int mx), .val (.int (jv + (1 : Int32))), .val (.int gy), .unset, .unset, .unset, .unset, .unset] []))
          exact ih (jN + 1) _ _ (jv + 1) _ _ _ (by omega) (own_inc hjv (by omega)) (by rw [← hmm]; simp only [own_gs, own_mm, ← h_gy, if_neg hc33_2, if_neg hc44_4]) ⟨hbd.1, hbd.2⟩ (Or.inr ⟨_, rfl, rfl⟩) XL eL NL
    | zero =>
      intro jN mn mx jv sl8 TL locsL hjn hjv hmm hbd one_sl8 XL eL NL
      have hend : ¬ jv < p1 + p2 := by rw [Int32.lt_iff_toInt_lt, hsum, hjv]; omega
      have hMM : (own_mm (own_gs ys k wd) 255 0) = (mn, mx) := hmm.symm
      have hlt' := hlt
      rw [hMM] at hlt'
      show OwnEnds p.tables e below _ (TL.setTop (mkF m 11 #[.val (.ref a0), .val (.int p1), .val (.int p2), .val (.int p3), .val (.int p4), .val (.int mn), .val (.int mx), .val (.int jv), sl8, .unset, .unset, .unset, .unset, .unset] []))
      refine own_via (fun t k => XS.iload XL.here hx rfl (hb hby d1_11) rfl k) ?_
      show OwnEnds p.tables e below _ (TL.setTop (mkF m 13 #[.val (.ref a0), .val (.int p1), .val (.int p2), .val (.int p3), .val (.int p4), .val (.int mn), .val (.int mx), .val (.int jv), sl8, .unset, .unset, .unset, .unset, .unset] [(.int jv)]))
      refine own_via (fun t k => XS.iloadN XL.here hx rfl (hb hby d1_13) rfl k) ?_
      show OwnEnds p.tables e below _ (TL.setTop (mkF m 14 #[.val (.ref a0), .val (.int p1), .val (.int p2), .val (.int p3), .val (.int p4), .val (.int mn), .val (.int mx), .val (.int jv), sl8, .unset, .unset, .unset, .unset, .unset] [(.int p1), (.int jv)]))
      refine own_via (fun t k => XS.iloadN XL.here hx rfl (hb hby d1_14) rfl k) ?_
      show OwnEnds p.tables e below _ (TL.setTop (mkF m 15 #[.val (.ref a0), .val (.int p1), .val (.int p2), .val (.int p3), .val (.int p4), .val (.int mn), .val (.int mx), .val (.int jv), sl8, .unset, .unset, .unset, .unset, .unset] [(.int p2), (.int p1), (.int jv)]))
      refine own_via (fun t k => XS.iadd XL.here hx rfl (hb hby d1_15) rfl k) ?_
      show OwnEnds p.tables e below _ (TL.setTop (mkF m 16 #[.val (.ref a0), .val (.int p1), .val (.int p2), .val (.int p3), .val (.int p4), .val (.int mn), .val (.int mx), .val (.int jv), sl8, .unset, .unset, .unset, .unset, .unset] [(.int (p1 + p2)), (.int jv)]))
      have hc16_5 : ¬ (jv < (p1 + p2)) := hend
      refine own_via (fun t k => XS.icmpYes XL.here hx rfl (pc0 := 16) (pc' := 57) rfl (hb hby d1_16) rfl (flt hc16_5).2.1 (by decide) (by decide) k) ?_
      show OwnEnds p.tables e below _ (TL.setTop (mkF m 57 #[.val (.ref a0), .val (.int p1), .val (.int p2), .val (.int p3), .val (.int p4), .val (.int mn), .val (.int mx), .val (.int jv), sl8, .unset, .unset, .unset, .unset, .unset] []))
      refine own_via (fun t k => XS.iload XL.here hx rfl (hb hby d1_57) rfl k) ?_
      show OwnEnds p.tables e below _ (TL.setTop (mkF m 59 #[.val (.ref a0), .val (.int p1), .val (.int p2), .val (.int p3), .val (.int p4), .val (.int mn), .val (.int mx), .val (.int jv), sl8, .unset, .unset, .unset, .unset, .unset] [(.int mx)]))
      refine own_via (fun t k => XS.iload XL.here hx rfl (hb hby d1_59) rfl k) ?_
      show OwnEnds p.tables e below _ (TL.setTop (mkF m 61 #[.val (.ref a0), .val (.int p1), .val (.int p2), .val (.int p3), .val (.int p4), .val (.int mn), .val (.int mx), .val (.int jv), sl8, .unset, .unset, .unset, .unset, .unset] [(.int mn), (.int mx)]))
      refine own_via (fun t k => XS.isub XL.here hx rfl (hb hby d1_61) rfl k) ?_
      show OwnEnds p.tables e below _ (TL.setTop (mkF m 62 #[.val (.ref a0), .val (.int p1), .val (.int p2), .val (.int p3), .val (.int p4), .val (.int mn), .val (.int mx), .val (.int jv), sl8, .unset, .unset, .unset, .unset, .unset] [(.int (mx - mn))]))
      refine own_via (fun t k => XS.bipush XL.here hx rfl (hb hby d1_62) k) ?_
      show OwnEnds p.tables e below _ (TL.setTop (mkF m 64 #[.val (.ref a0), .val (.int p1), .val (.int p2), .val (.int p3), .val (.int p4), .val (.int mn), .val (.int mx), .val (.int jv), sl8, .unset, .unset, .unset, .unset, .unset] [(.int (32 : Int32)), (.int (mx - mn))]))
      have hc64_6 : (mx - mn) < (32 : Int32) := hlt'
      refine own_via (fun t k => XS.icmpNo XL.here hx rfl (hb hby d1_64) rfl (tlt hc64_6).2.1 k) ?_
      show OwnEnds p.tables e below _ (TL.setTop (mkF m 67 #[.val (.ref a0), .val (.int p1), .val (.int p2), .val (.int p3), .val (.int p4), .val (.int mn), .val (.int mx), .val (.int jv), sl8, .unset, .unset, .unset, .unset, .unset] []))
      obtain ⟨T7, X7, e7, st7⟩ := getS2 XL hx hZ hown (host := "") (Or.inl (hw _ (List.mem_of_getElem? (i := 5) rfl))) Via.refl eL (S_ne.ext O0.2) (g := (mkF m 67 #[.val (.ref a0), .val (.int p1), .val (.int p2), .val (.int p3), .val (.int p4), .val (.int mn), .val (.int mx), .val (.int jv), sl8, .unset, .unset, .unset, .unset, .unset] [])) rfl (hb hby d1_67)
      refine own_via st7 ?_
      show OwnEnds p.tables e below _ (T7.setTop (mkF m 70 #[.val (.ref a0), .val (.int p1), .val (.int p2), .val (.int p3), .val (.int p4), .val (.int mn), .val (.int mx), .val (.int jv), sl8, .unset, .unset, .unset, .unset, .unset] [(.ref na)]))
      refine own_retA X7 hx Bd.returns rfl rfl hlk (hb hby d1_70) ?_ (by decide) (by decide)
      rw [e7]
      exact ⟨rfl, NL, rfl⟩
  exact loop wd k 255 0 p1 _ _ _ rfl hk rfl ⟨by decide, by decide⟩ (Or.inl rfl) X0 e0 N0
theorem ef_1b (m : MethodId) (a0 : Addr) (p1 : Int32) (p2 : Int32) (p3 : Int32) (p4 : Int32) : entryFrame m #[(.ref a0), (.int p1), (.int p2), (.int p3), (.int p4)] 14 = mkF m 0 #[.val (.ref a0), .val (.int p1), .val (.int p2), .val (.int p3), .val (.int p4), .unset, .unset, .unset, .unset, .unset, .unset, .unset, .unset, .unset] [] := by first | (simp [entryFrame, mkF, argsToLocals, Value.category]; done) | rfl
def Q1b (Z : State) (a0 : Addr) (p1 : Int32) (p2 : Int32) (p3 : Int32) (p4 : Int32) (ys : List Int32) (k : Nat) (wd : Nat) (fN : Nat) (tN : Nat) (h0 : Heap) (n0 : Nat) (v : Option Value) (h : Heap) (L : List Loc) : Prop := ∃ b : Addr, v = some (.ref b) ∧ Fr n0 L ∧ Keep h0 h [] ∧ h0.size ≤ b ∧ AL Z h b .int (own_iv (own_res ys k wd fN tN p3 p4))
set_option maxRecDepth 65536 in
set_option maxHeartbeats 40000000 in
theorem rm1b (l : Launch) (Z : State) (aw : Array Value) (hw : ∀ d ∈ tables_1, d.before aw Z = true) (ws : List Jvm.Cond) (a0 : Addr) (p1 : Int32) (p2 : Int32) (p3 : Int32) (p4 : Int32) (ys : List Int32) (k : Nat) (wd : Nat) (fN : Nat) (tN : Nat) (h0 : Heap) (n0 : Nat) (Z0 : n0 ≤ h0.size) (A_a0 : AL Z h0 a0 .byte (own_iv ys)) (hk : p1.toInt = k) (hwd : p2.toInt = wd) (hfN : p3.toInt = fN) (htN : p4.toInt = tN) (hlen : ys.length = 5) (hkw : k + wd ≤ 5) (hw4 : wd ≤ 4) (hft : fN < tN) (htw : tN ≤ wd) (hlt : ¬ ((own_mm (own_gs ys k wd) 255 0).2 - (own_mm (own_gs ys k wd) 255 0).1 < 32)) :
    MetFree l (⟨"com/example/shelfmark/shelfmark/Scanline", "elements", "([BIIII)[I"⟩ : MethodName) (head1 (Jvm.Cond.code (⟨"com/example/shelfmark/shelfmark/Scanline", "elements", "([BIIII)[I"⟩ : MethodName) prog_16_method_2_code 14 (some (.array .int)) :: ws) ({ frames := 2, cells := 2, slots := 12, locals := 54 } : Room)) (fun a U => a = #[(.ref a0), (.int p1), (.int p2), (.int p3), (.int p4)] ∧ Z.Warmed39 U.vm ∧ U.heap = h0) (fun _ _ _ _ _ => True) (fun _ U o U' => ∃ v L, o = .returned v ∧ Q1b Z a0 p1 p2 p3 p4 ys k wd fN tN h0 n0 v U'.heap L ∧ FrameEnd U o U' L ({ frames := 2, cells := 2, slots := 12, locals := 54 } : Room).cells ({ frames := 2, cells := 2, slots := 12, locals := 54 } : Room).slots) := by
  refine MetFree.of_bodySF (plainFor_of_name pn_0) hisR ?_
  intro p e s m args below meth c s₁ Bd hml0 hP hK
  obtain ⟨rfl, hZ, hh⟩ := hP
  have hx := Bd.exec
  have hby := Bd.bytes
  have hml : c.maxLocals = 14 := hml0
  have hown : s.vm.findClass "com/example/shelfmark/shelfmark/Scanline" = some m.cls := findClass_of_methodNamed Bd.named
  have hnm := (name_of_methodNamed Bd.named Bd.method).1
  have hlk : meth.locks = false := Bd.notSynchronized
  have X0 : Stand p l e ({ frames := 2, cells := 2, slots := 12, locals := 54 } : Room) s m #[(.ref a0), (.int p1), (.int p2), (.int p3), (.int p4)] below meth c s₁ [] 0 0 := Stand.of_body Bd
  have e0 : s₁.heap = h0 := by rw [← hh, Bd.state]; rfl
  have N0 := Fr.nil n0
  show OwnEnds p.tables e below (OwnQ s ({ frames := 2, cells := 2, slots := 12, locals := 54 } : Room).cells ({ frames := 2, cells := 2, slots := 12, locals := 54 } : Room).slots (Q1b Z a0 p1 p2 p3 p4 ys k wd fN tN h0 n0)) (s₁.setTop (entryFrame m #[(.ref a0), (.int p1), (.int p2), (.int p3), (.int p4)] 14))
  refine own_via (fun t k => castTop (ef_1b m a0 p1 p2 p3 p4) k) ?_
  show OwnEnds p.tables e below _ (s₁.setTop (mkF m 0 #[.val (.ref a0), .val (.int p1), .val (.int p2), .val (.int p3), .val (.int p4), .unset, .unset, .unset, .unset, .unset, .unset, .unset, .unset, .unset] []))
  have K0 : Keep h0 h0 [] := Keep.refl _ _
  refine own_via (fun t k => XS.sipush X0.here hx rfl (hb hby d1_0) k) ?_
  show OwnEnds p.tables e below _ (s₁.setTop (mkF m 3 #[.val (.ref a0), .val (.int p1), .val (.int p2), .val (.int p3), .val (.int p4), .unset, .unset, .unset, .unset, .unset, .unset, .unset, .unset, .unset] [(.int (255 : Int32))]))
  refine own_via (fun t k => XS.istore X0.here hx rfl (hb hby d1_3) rfl (l' := #[.val (.ref a0), .val (.int p1), .val (.int p2), .val (.int p3), .val (.int p4), .val (.int (255 : Int32)), .unset, .unset, .unset, .unset, .unset, .unset, .unset, .unset]) rfl k) ?_
  show OwnEnds p.tables e below _ (s₁.setTop (mkF m 5 #[.val (.ref a0), .val (.int p1), .val (.int p2), .val (.int p3), .val (.int p4), .val (.int (255 : Int32)), .unset, .unset, .unset, .unset, .unset, .unset, .unset, .unset] []))
  refine own_via (fun t k => XS.iconst X0.here hx rfl (hb hby d1_5) k) ?_
  show OwnEnds p.tables e below _ (s₁.setTop (mkF m 6 #[.val (.ref a0), .val (.int p1), .val (.int p2), .val (.int p3), .val (.int p4), .val (.int (255 : Int32)), .unset, .unset, .unset, .unset, .unset, .unset, .unset, .unset] [(.int (0 : Int32))]))
  refine own_via (fun t k => XS.istore X0.here hx rfl (hb hby d1_6) rfl (l' := #[.val (.ref a0), .val (.int p1), .val (.int p2), .val (.int p3), .val (.int p4), .val (.int (255 : Int32)), .val (.int (0 : Int32)), .unset, .unset, .unset, .unset, .unset, .unset, .unset]) rfl k) ?_
  show OwnEnds p.tables e below _ (s₁.setTop (mkF m 8 #[.val (.ref a0), .val (.int p1), .val (.int p2), .val (.int p3), .val (.int p4), .val (.int (255 : Int32)), .val (.int (0 : Int32)), .unset, .unset, .unset, .unset, .unset, .unset, .unset] []))
  refine own_via (fun t k => XS.iloadN X0.here hx rfl (hb hby d1_8) rfl k) ?_
  show OwnEnds p.tables e below _ (s₁.setTop (mkF m 9 #[.val (.ref a0), .val (.int p1), .val (.int p2), .val (.int p3), .val (.int p4), .val (.int (255 : Int32)), .val (.int (0 : Int32)), .unset, .unset, .unset, .unset, .unset, .unset, .unset] [(.int p1)]))
  refine own_via (fun t k => XS.istore X0.here hx rfl (hb hby d1_9) rfl (l' := #[.val (.ref a0), .val (.int p1), .val (.int p2), .val (.int p3), .val (.int p4), .val (.int (255 : Int32)), .val (.int (0 : Int32)), .val (.int p1), .unset, .unset, .unset, .unset, .unset, .unset]) rfl k) ?_
  show OwnEnds p.tables e below _ (s₁.setTop (mkF m 11 #[.val (.ref a0), .val (.int p1), .val (.int p2), .val (.int p3), .val (.int p4), .val (.int (255 : Int32)), .val (.int (0 : Int32)), .val (.int p1), .unset, .unset, .unset, .unset, .unset, .unset] []))
  have hsum := own_addi hk hwd (by omega)
  have loop : ∀ (n jN : Nat) (mn mx jv : Int32) (sl8 : Slot) (TL : State) (locsL : List Loc), jN + n = k + wd → jv.toInt = jN → own_mm (own_gs ys jN n) mn mx = (own_mm (own_gs ys k wd) 255 0) → ((0 ≤ mn.toInt ∧ mn.toInt ≤ 255) ∧ (0 ≤ mx.toInt ∧ mx.toInt ≤ 255)) → (sl8 = .unset ∨ ∃ w, sl8 = .val w ∧ w.category = 1) → Stand p l e ({ frames := 2, cells := 2, slots := 12, locals := 54 } : Room) s m #[(.ref a0), (.int p1), (.int p2), (.int p3), (.int p4)] below meth c TL locsL 0 0 → TL.heap = h0 → Fr n0 locsL → OwnEnds p.tables e below (OwnQ s ({ frames := 2, cells := 2, slots := 12, locals := 54 } : Room).cells ({ frames := 2, cells := 2, slots := 12, locals := 54 } : Room).slots (Q1b Z a0 p1 p2 p3 p4 ys k wd fN tN h0 n0)) (TL.setTop (mkF m 11 #[.val (.ref a0), .val (.int p1), .val (.int p2), .val (.int p3), .val (.int p4), .val (.int mn), .val (.int mx), .val (.int jv), sl8, .unset, .unset, .unset, .unset, .unset] [])) := by
    intro n
    induction n with
    | succ n ih =>
      intro jN mn mx jv sl8 TL locsL hjn hjv hmm hbd one_sl8 XL eL NL
      have hless : jv < p1 + p2 := by rw [Int32.lt_iff_toInt_lt, hsum, hjv]; omega
      show OwnEnds p.tables e below _ (TL.setTop (mkF m 11 #[.val (.ref a0), .val (.int p1), .val (.int p2), .val (.int p3), .val (.int p4), .val (.int mn), .val (.int mx), .val (.int jv), sl8, .unset, .unset, .unset, .unset, .unset] []))
      refine own_via (fun t k => XS.iload XL.here hx rfl (hb hby d1_11) rfl k) ?_
      show OwnEnds p.tables e below _ (TL.setTop (mkF m 13 #[.val (.ref a0), .val (.int p1), .val (.int p2), .val (.int p3), .val (.int p4), .val (.int mn), .val (.int mx), .val (.int jv), sl8, .unset, .unset, .unset, .unset, .unset] [(.int jv)]))
      refine own_via (fun t k => XS.iloadN XL.here hx rfl (hb hby d1_13) rfl k) ?_
      show OwnEnds p.tables e below _ (TL.setTop (mkF m 14 #[.val (.ref a0), .val (.int p1), .val (.int p2), .val (.int p3), .val (.int p4), .val (.int mn), .val (.int mx), .val (.int jv), sl8, .unset, .unset, .unset, .unset, .unset] [(.int p1), (.int jv)]))
      refine own_via (fun t k => XS.iloadN XL.here hx rfl (hb hby d1_14) rfl k) ?_
      show OwnEnds p.tables e below _ (TL.setTop (mkF m 15 #[.val (.ref a0), .val (.int p1), .val (.int p2), .val (.int p3), .val (.int p4), .val (.int mn), .val (.int mx), .val (.int jv), sl8, .unset, .unset, .unset, .unset, .unset] [(.int p2), (.int p1), (.int jv)]))
      refine own_via (fun t k => XS.iadd XL.here hx rfl (hb hby d1_15) rfl k) ?_
      show OwnEnds p.tables e below _ (TL.setTop (mkF m 16 #[.val (.ref a0), .val (.int p1), .val (.int p2), .val (.int p3), .val (.int p4), .val (.int mn), .val (.int mx), .val (.int jv), sl8, .unset, .unset, .unset, .unset, .unset] [(.int (p1 + p2)), (.int jv)]))
      have hc16_1 : jv < (p1 + p2) := hless
      refine own_via (fun t k => XS.icmpNo XL.here hx rfl (hb hby d1_16) rfl (tlt hc16_1).2.1 k) ?_
      show OwnEnds p.tables e below _ (TL.setTop (mkF m 19 #[.val (.ref a0), .val (.int p1), .val (.int p2), .val (.int p3), .val (.int p4), .val (.int mn), .val (.int mx), .val (.int jv), sl8, .unset, .unset, .unset, .unset, .unset] []))
      refine own_via (fun t k => XS.aloadN XL.here hx rfl (hb hby d1_19) rfl rfl k) ?_
      show OwnEnds p.tables e below _ (TL.setTop (mkF m 20 #[.val (.ref a0), .val (.int p1), .val (.int p2), .val (.int p3), .val (.int p4), .val (.int mn), .val (.int mx), .val (.int jv), sl8, .unset, .unset, .unset, .unset, .unset] [(.ref a0)]))
      refine own_via (fun t k => XS.iload XL.here hx rfl (hb hby d1_20) rfl k) ?_
      show OwnEnds p.tables e below _ (TL.setTop (mkF m 22 #[.val (.ref a0), .val (.int p1), .val (.int p2), .val (.int p3), .val (.int p4), .val (.int mn), .val (.int mx), .val (.int jv), sl8, .unset, .unset, .unset, .unset, .unset] [(.int jv), (.ref a0)]))
      refine own_via (own_ldB XL hx hZ eL A_a0 (v := (.int (ys.getD jN 0))) jN hjv (own_iv_get (by omega)) (g := (mkF m 22 #[.val (.ref a0), .val (.int p1), .val (.int p2), .val (.int p3), .val (.int p4), .val (.int mn), .val (.int mx), .val (.int jv), sl8, .unset, .unset, .unset, .unset, .unset] [(.int jv), (.ref a0)])) rfl rfl (hb hby d1_22)) ?_
      show OwnEnds p.tables e below _ (TL.setTop (mkF m 23 #[.val (.ref a0), .val (.int p1), .val (.int p2), .val (.int p3), .val (.int p4), .val (.int mn), .val (.int mx), .val (.int jv), sl8, .unset, .unset, .unset, .unset, .unset] [(.int (ys.getD jN 0))]))
      refine own_via (fun t k => XS.sipush XL.here hx rfl (hb hby d1_23) k) ?_
      show OwnEnds p.tables e below _ (TL.setTop (mkF m 26 #[.val (.ref a0), .val (.int p1), .val (.int p2), .val (.int p3), .val (.int p4), .val (.int mn), .val (.int mx), .val (.int jv), sl8, .unset, .unset, .unset, .unset, .unset] [(.int (255 : Int32)), (.int (ys.getD jN 0))]))
      refine own_via (fun t k => XS.iand XL.here hx rfl (hb hby d1_26) rfl k) ?_
      show OwnEnds p.tables e below _ (TL.setTop (mkF m 27 #[.val (.ref a0), .val (.int p1), .val (.int p2), .val (.int p3), .val (.int p4), .val (.int mn), .val (.int mx), .val (.int jv), sl8, .unset, .unset, .unset, .unset, .unset] [(.int ((ys.getD jN 0) &&& (255 : Int32)))]))
      obtain ⟨gy, h_gy⟩ : ∃ z, z = ((ys.getD jN 0) &&& (255 : Int32)) := ⟨_, rfl⟩
      rw [← h_gy]
      refine own_via (fun t k => XS.istore XL.here hx rfl (hb hby d1_27) rfl (l' := #[.val (.ref a0), .val (.int p1), .val (.int p2), .val (.int p3), .val (.int p4), .val (.int mn), .val (.int mx), .val (.int jv), .val (.int gy), .unset, .unset, .unset, .unset, .unset]) (XS.store1 rfl one_sl8 rfl) k) ?_
      show OwnEnds p.tables e below _ (TL.setTop (mkF m 29 #[.val (.ref a0), .val (.int p1), .val (.int p2), .val (.int p3), .val (.int p4), .val (.int mn), .val (.int mx), .val (.int jv), .val (.int gy), .unset, .unset, .unset, .unset, .unset] []))
      refine own_via (fun t k => XS.iload XL.here hx rfl (hb hby d1_29) rfl k) ?_
      show OwnEnds p.tables e below _ (TL.setTop (mkF m 31 #[.val (.ref a0), .val (.int p1), .val (.int p2), .val (.int p3), .val (.int p4), .val (.int mn), .val (.int mx), .val (.int jv), .val (.int gy), .unset, .unset, .unset, .unset, .unset] [(.int gy)]))
      refine own_via (fun t k => XS.iload XL.here hx rfl (hb hby d1_31) rfl k) ?_
      show OwnEnds p.tables e below _ (TL.setTop (mkF m 33 #[.val (.ref a0), .val (.int p1), .val (.int p2), .val (.int p3), .val (.int p4), .val (.int mn), .val (.int mx), .val (.int jv), .val (.int gy), .unset, .unset, .unset, .unset, .unset] [(.int mn), (.int gy)]))
      by_cases hc33_2 : gy < mn
      · skip
        refine own_via (fun t k => XS.icmpNo XL.here hx rfl (hb hby d1_33) rfl (tlt hc33_2).2.1 k) ?_
        show OwnEnds p.tables e below _ (TL.setTop (mkF m 36 #[.val (.ref a0), .val (.int p1), .val (.int p2), .val (.int p3), .val (.int p4), .val (.int mn), .val (.int mx), .val (.int jv), .val (.int gy), .unset, .unset, .unset, .unset, .unset] []))
        refine own_via (fun t k => XS.iload XL.here hx rfl (hb hby d1_36) rfl k) ?_
        show OwnEnds p.tables e below _ (TL.setTop (mkF m 38 #[.val (.ref a0), .val (.int p1), .val (.int p2), .val (.int p3), .val (.int p4), .val (.int mn), .val (.int mx), .val (.int jv), .val (.int gy), .unset, .unset, .unset, .unset, .unset] [(.int gy)]))
        refine own_via (fun t k => XS.istore XL.here hx rfl (hb hby d1_38) rfl (l' := #[.val (.ref a0), .val (.int p1), .val (.int p2), .val (.int p3), .val (.int p4), .val (.int gy), .val (.int mx), .val (.int jv), .val (.int gy), .unset, .unset, .unset, .unset, .unset]) rfl k) ?_
        show OwnEnds p.tables e below _ (TL.setTop (mkF m 40 #[.val (.ref a0), .val (.int p1), .val (.int p2), .val (.int p3), .val (.int p4), .val (.int gy), .val (.int mx), .val (.int jv), .val (.int gy), .unset, .unset, .unset, .unset, .unset] []))
        refine own_via (fun t k => XS.iload XL.here hx rfl (hb hby d1_40) rfl k) ?_
        show OwnEnds p.tables e below _ (TL.setTop (mkF m 42 #[.val (.ref a0), .val (.int p1), .val (.int p2), .val (.int p3), .val (.int p4), .val (.int gy), .val (.int mx), .val (.int jv), .val (.int gy), .unset, .unset, .unset, .unset, .unset] [(.int gy)]))
        refine own_via (fun t k => XS.iload XL.here hx rfl (hb hby d1_42) rfl k) ?_
        show OwnEnds p.tables e below _ (TL.setTop (mkF m 44 #[.val (.ref a0), .val (.int p1), .val (.int p2), .val (.int p3), .val (.int p4), .val (.int gy), .val (.int mx), .val (.int jv), .val (.int gy), .unset, .unset, .unset, .unset, .unset] [(.int mx), (.int gy)]))
        by_cases hc44_3 : mx < gy
        · skip
          refine own_via (fun t k => XS.icmpNo XL.here hx rfl (hb hby d1_44) rfl (tlt hc44_3).2.2.2 k) ?_
          show OwnEnds p.tables e below _ (TL.setTop (mkF m 47 #[.val (.ref a0), .val (.int p1), .val (.int p2), .val (.int p3), .val (.int p4), .val (.int gy), .val (.int mx), .val (.int jv), .val (.int gy), .unset, .unset, .unset, .unset, .unset] []))
          refine own_via (fun t k => XS.iload XL.here hx rfl (hb hby d1_47) rfl k) ?_
          show OwnEnds p.tables e below _ (TL.setTop (mkF m 49 #[.val (.ref a0), .val (.int p1), .val (.int p2), .val (.int p3), .val (.int p4), .val (.int gy), .val (.int mx), .val (.int jv), .val (.int gy), .unset, .unset, .unset, .unset, .unset] [(.int gy)]))
          refine own_via (fun t k => XS.istore XL.here hx rfl (hb hby d1_49) rfl (l' := #[.val (.ref a0), .val (.int p1), .val (.int p2), .val (.int p3), .val (.int p4), .val (.int gy), .val (.int gy), .val (.int jv), .val (.int gy), .unset, .unset, .unset, .unset, .unset]) rfl k) ?_
          show OwnEnds p.tables e below _ (TL.setTop (mkF m 51 #[.val (.ref a0), .val (.int p1), .val (.int p2), .val (.int p3), .val (.int p4), .val (.int gy), .val (.int gy), .val (.int jv), .val (.int gy), .unset, .unset, .unset, .unset, .unset] []))
          refine own_via (fun t k => XS.iinc XL.here hx rfl (hb hby d1_51) rfl (l' := #[.val (.ref a0), .val (.int p1), .val (.int p2), .val (.int p3), .val (.int p4), .val (.int gy), .val (.int gy), .val (.int (jv + (1 : Int32))), .val (.int gy), .unset, .unset, .unset, .unset, .unset]) rfl k) ?_
          show OwnEnds p.tables e below _ (TL.setTop (mkF m 54 #[.val (.ref a0), .val (.int p1), .val (.int p2), .val (.int p3), .val (.int p4), .val (.int gy), .val (.int gy), .val (.int (jv + (1 : Int32))), .val (.int gy), .unset, .unset, .unset, .unset, .unset] []))
          refine own_via (fun t k => XS.goto XL.here hx rfl (pc0 := 54) (pc' := 11) rfl (hb hby d1_54) (by decide) (by decide) k) ?_
          show OwnEnds p.tables e below _ (TL.setTop (mkF m 11 #[.val (.ref a0), .val (.int p1), .val (.int p2), .val (.int p3), .val (.int p4), .val (.int gy), .val (.int gy), .val (.int (jv + (1 : Int32))), .val (.int gy), .unset, .unset, .unset, .unset, .unset] []))
          exact ih (jN + 1) _ _ (jv + 1) _ _ _ (by omega) (own_inc hjv (by omega)) (by rw [← hmm]; simp only [own_gs, own_mm, ← h_gy, if_pos hc33_2, if_pos hc44_3]) ⟨own_gb h_gy, own_gb h_gy⟩ (Or.inr ⟨_, rfl, rfl⟩) XL eL NL
        · skip
          refine own_via (fun t k => XS.icmpYes XL.here hx rfl (pc0 := 44) (pc' := 51) rfl (hb hby d1_44) rfl (flt hc44_3).2.2.2 (by decide) (by decide) k) ?_
          show OwnEnds p.tables e below _ (TL.setTop (mkF m 51 #[.val (.ref a0), .val (.int p1), .val (.int p2), .val (.int p3), .val (.int p4), .val (.int gy), .val (.int mx), .val (.int jv), .val (.int gy), .unset, .unset, .unset, .unset, .unset] []))
          refine own_via (fun t k => XS.iinc XL.here hx rfl (hb hby d1_51) rfl (l' := #[.val (.ref a0), .val (.int p1), .val (.int p2), .val (.int p3), .val (.int p4), .val (.int gy), .val (.int mx), .val (.int (jv + (1 : Int32))), .val (.int gy), .unset, .unset, .unset, .unset, .unset]) rfl k) ?_
          show OwnEnds p.tables e below _ (TL.setTop (mkF m 54 #[.val (.ref a0), .val (.int p1), .val (.int p2), .val (.int p3), .val (.int p4), .val (.int gy), .val (.int mx), .val (.int (jv + (1 : Int32))), .val (.int gy), .unset, .unset, .unset, .unset, .unset] []))
          refine own_via (fun t k => XS.goto XL.here hx rfl (pc0 := 54) (pc' := 11) rfl (hb hby d1_54) (by decide) (by decide) k) ?_
          show OwnEnds p.tables e below _ (TL.setTop (mkF m 11 #[.val (.ref a0), .val (.int p1), .val (.int p2), .val (.int p3), .val (.int p4), .val (.int gy), .val (.int mx), .val (.int (jv + (1 : Int32))), .val (.int gy), .unset, .unset, .unset, .unset, .unset] []))
          exact ih (jN + 1) _ _ (jv + 1) _ _ _ (by omega) (own_inc hjv (by omega)) (by rw [← hmm]; simp only [own_gs, own_mm, ← h_gy, if_pos hc33_2, if_neg hc44_3]) ⟨own_gb h_gy, hbd.2⟩ (Or.inr ⟨_, rfl, rfl⟩) XL eL NL
      · skip
        refine own_via (fun t k => XS.icmpYes XL.here hx rfl (pc0 := 33) (pc' := 40) rfl (hb hby d1_33) rfl (flt hc33_2).2.1 (by decide) (by decide) k) ?_
        show OwnEnds p.tables e below _ (TL.setTop (mkF m 40 #[.val (.ref a0), .val (.int p1), .val (.int p2), .val (.int p3), .val (.int p4), .val (.int mn), .val (.int mx), .val (.int jv), .val (.int gy), .unset, .unset, .unset, .unset, .unset] []))
        refine own_via (fun t k => XS.iload XL.here hx rfl (hb hby d1_40) rfl k) ?_
        show OwnEnds p.tables e below _ (TL.setTop (mkF m 42 #[.val (.ref a0), .val (.int p1), .val (.int p2), .val (.int p3), .val (.int p4), .val (.int mn), .val (.int mx), .val (.int jv), .val (.int gy), .unset, .unset, .unset, .unset, .unset] [(.int gy)]))
        refine own_via (fun t k => XS.iload XL.here hx rfl (hb hby d1_42) rfl k) ?_
        show OwnEnds p.tables e below _ (TL.setTop (mkF m 44 #[.val (.ref a0), .val (.int p1), .val (.int p2), .val (.int p3), .val (.int p4), .val (.int mn), .val (.int mx), .val (.int jv), .val (.int gy), .unset, .unset, .unset, .unset, .unset] [(.int mx), (.int gy)]))
        by_cases hc44_4 : mx < gy
        · skip
          refine own_via (fun t k => XS.icmpNo XL.here hx rfl (hb hby d1_44) rfl (tlt hc44_4).2.2.2 k) ?_
          show OwnEnds p.tables e below _ (TL.setTop (mkF m 47 #[.val (.ref a0), .val (.int p1), .val (.int p2), .val (.int p3), .val (.int p4), .val (.int mn), .val (.int mx), .val (.int jv), .val (.int gy), .unset, .unset, .unset, .unset, .unset] []))
          refine own_via (fun t k => XS.iload XL.here hx rfl (hb hby d1_47) rfl k) ?_
          show OwnEnds p.tables e below _ (TL.setTop (mkF m 49 #[.val (.ref a0), .val (.int p1), .val (.int p2), .val (.int p3), .val (.int p4), .val (.int mn), .val (.int mx), .val (.int jv), .val (.int gy), .unset, .unset, .unset, .unset, .unset] [(.int gy)]))
          refine own_via (fun t k => XS.istore XL.here hx rfl (hb hby d1_49) rfl (l' := #[.val (.ref a0), .val (.int p1), .val (.int p2), .val (.int p3), .val (.int p4), .val (.int mn), .val (.int gy), .val (.int jv), .val (.int gy), .unset, .unset, .unset, .unset, .unset]) rfl k) ?_
          show OwnEnds p.tables e below _ (TL.setTop (mkF m 51 #[.val (.ref a0), .val (.int p1), .val (.int p2), .val (.int p3), .val (.int p4), .val (.int mn), .val (.int gy), .val (.int jv), .val (.int gy), .unset, .unset, .unset, .unset, .unset] []))
          refine own_via (fun t k => XS.iinc XL.here hx rfl (hb hby d1_51) rfl (l' := #[.val (.ref a0), .val (.int p1), .val (.int p2), .val (.int p3), .val (.int p4), .val (.int mn), .val (.int gy), .val (.int (jv + (1 : Int32))), .val (.int gy), .unset, .unset, .unset, .unset, .unset]) rfl k) ?_
          show OwnEnds p.tables e below _ (TL.setTop (mkF m 54 #[.val (.ref a0), .val (.int p1), .val (.int p2), .val (.int p3), .val (.int p4), .val (.int mn), .val (.int gy), .val (.int (jv + (1 : Int32))), .val (.int gy), .unset, .unset, .unset, .unset, .unset] []))
          refine own_via (fun t k => XS.goto XL.here hx rfl (pc0 := 54) (pc' := 11) rfl (hb hby d1_54) (by decide) (by decide) k) ?_
          show OwnEnds p.tables e below _ (TL.setTop (mkF m 11 #[.val (.ref a0), .val (.int p1), .val (.int p2), .val (.int p3), .val (.int p4), .val (.int mn), .val (.int gy), .val (.int (jv + (1 : Int32))), .val (.int gy), .unset, .unset, .unset, .unset, .unset] []))
          exact ih (jN + 1) _ _ (jv + 1) _ _ _ (by omega) (own_inc hjv (by omega)) (by rw [← hmm]; simp only [own_gs, own_mm, ← h_gy, if_neg hc33_2, if_pos hc44_4]) ⟨hbd.1, own_gb h_gy⟩ (Or.inr ⟨_, rfl, rfl⟩) XL eL NL
        · skip
          refine own_via (fun t k => XS.icmpYes XL.here hx rfl (pc0 := 44) (pc' := 51) rfl (hb hby d1_44) rfl (flt hc44_4).2.2.2 (by decide) (by decide) k) ?_
          show OwnEnds p.tables e below _ (TL.setTop (mkF m 51 #[.val (.ref a0), .val (.int p1), .val (.int p2), .val (.int p3), .val (.int p4), .val (.int mn), .val (.int mx), .val (.int jv), .val (.int gy), .unset, .unset, .unset, .unset, .unset] []))
          refine own_via (fun t k => XS.iinc XL.here hx rfl (hb hby d1_51) rfl (l' := #[.val (.ref a0), .val (.int p1), .val (.int p2), .val (.int p3), .val (.int p4), .val (.int mn), .val (.int mx), .val (.int (jv + (1 : Int32))), .val (.int gy), .unset, .unset, .unset, .unset, .unset]) rfl k) ?_
          show OwnEnds p.tables e below _ (TL.setTop (mkF m 54 #[.val (.ref a0), .val (.int p1), .val (.int p2), .val (.int p3), .val (.int p4), .val (.int mn), .val (.int mx), .val (.int (jv + (1 : Int32))), .val (.int gy), .unset, .unset, .unset, .unset, .unset] []))
          refine own_via (fun t k => XS.goto XL.here hx rfl (pc0 := 54) (pc' := 11) rfl (hb hby d1_54) (by decide) (by decide) k) ?_
          show OwnEnds p.tables e below _ (TL.setTop (mkF m 11 #[.val (.ref a0), .val (.int p1), .val (.int p2), .val (.int p3), .val (.int p4), .val (.int mn), .val (.int mx), .val (.int (jv + (1 : Int32))), .val (.int gy), .unset, .unset, .unset, .unset, .unset] []))
          exact ih (jN + 1) _ _ (jv + 1) _ _ _ (by omega) (own_inc hjv (by omega)) (by rw [← hmm]; simp only [own_gs, own_mm, ← h_gy, if_neg hc33_2, if_neg hc44_4]) ⟨hbd.1, hbd.2⟩ (Or.inr ⟨_, rfl, rfl⟩) XL eL NL
    | zero =>
      intro jN mn mx jv sl8 TL locsL hjn hjv hmm hbd one_sl8 XL eL NL
      have hend : ¬ jv < p1 + p2 := by rw [Int32.lt_iff_toInt_lt, hsum, hjv]; omega
      have hMM : (own_mm (own_gs ys k wd) 255 0) = (mn, mx) := hmm.symm
      have hlt' := hlt
      rw [hMM] at hlt'
      show OwnEnds p.tables e below _ (TL.setTop (mkF m 11 #[.val (.ref a0), .val (.int p1), .val (.int p2), .val (.int p3), .val (.int p4), .val (.int mn), .val (.int mx), .val (.int jv), sl8, .unset, .unset, .unset, .unset, .unset] []))
      refine own_via (fun t k => XS.iload XL.here hx rfl (hb hby d1_11) rfl k) ?_
      show OwnEnds p.tables e below _ (TL.setTop (mkF m 13 #[.val (.ref a0), .val (.int p1), .val (.int p2), .val (.int p3), .val (.int p4), .val (.int mn), .val (.int mx), .val (.int jv), sl8, .unset, .unset, .unset, .unset, .unset] [(.int jv)]))
      refine own_via (fun t k => XS.iloadN XL.here hx rfl (hb hby d1_13) rfl k) ?_
      show OwnEnds p.tables e below _ (TL.setTop (mkF m 14 #[.val (.ref a0), .val (.int p1), .val (.int p2), .val (.int p3), .val (.int p4), .val (.int mn), .val (.int mx), .val (.int jv), sl8, .unset, .unset, .unset, .unset, .unset] [(.int p1), (.int jv)]))
      refine own_via (fun t k => XS.iloadN XL.here hx rfl (hb hby d1_14) rfl k) ?_
      show OwnEnds p.tables e below _ (TL.setTop (mkF m 15 #[.val (.ref a0), .val (.int p1), .val (.int p2), .val (.int p3), .val (.int p4), .val (.int mn), .val (.int mx), .val (.int jv), sl8, .unset, .unset, .unset, .unset, .unset] [(.int p2), (.int p1), (.int jv)]))
      refine own_via (fun t k => XS.iadd XL.here hx rfl (hb hby d1_15) rfl k) ?_
      show OwnEnds p.tables e below _ (TL.setTop (mkF m 16 #[.val (.ref a0), .val (.int p1), .val (.int p2), .val (.int p3), .val (.int p4), .val (.int mn), .val (.int mx), .val (.int jv), sl8, .unset, .unset, .unset, .unset, .unset] [(.int (p1 + p2)), (.int jv)]))
      have hc16_5 : ¬ (jv < (p1 + p2)) := hend
      refine own_via (fun t k => XS.icmpYes XL.here hx rfl (pc0 := 16) (pc' := 57) rfl (hb hby d1_16) rfl (flt hc16_5).2.1 (by decide) (by decide) k) ?_
      show OwnEnds p.tables e below _ (TL.setTop (mkF m 57 #[.val (.ref a0), .val (.int p1), .val (.int p2), .val (.int p3), .val (.int p4), .val (.int mn), .val (.int mx), .val (.int jv), sl8, .unset, .unset, .unset, .unset, .unset] []))
      refine own_via (fun t k => XS.iload XL.here hx rfl (hb hby d1_57) rfl k) ?_
      show OwnEnds p.tables e below _ (TL.setTop (mkF m 59 #[.val (.ref a0), .val (.int p1), .val (.int p2), .val (.int p3), .val (.int p4), .val (.int mn), .val (.int mx), .val (.int jv), sl8, .unset, .unset, .unset, .unset, .unset] [(.int mx)]))
      refine own_via (fun t k => XS.iload XL.here hx rfl (hb hby d1_59) rfl k) ?_
      show OwnEnds p.tables e below _ (TL.setTop (mkF m 61 #[.val (.ref a0), .val (.int p1), .val (.int p2), .val (.int p3), .val (.int p4), .val (.int mn), .val (.int mx), .val (.int jv), sl8, .unset, .unset, .unset, .unset, .unset] [(.int mn), (.int mx)]))
      refine own_via (fun t k => XS.isub XL.here hx rfl (hb hby d1_61) rfl k) ?_
      show OwnEnds p.tables e below _ (TL.setTop (mkF m 62 #[.val (.ref a0), .val (.int p1), .val (.int p2), .val (.int p3), .val (.int p4), .val (.int mn), .val (.int mx), .val (.int jv), sl8, .unset, .unset, .unset, .unset, .unset] [(.int (mx - mn))]))
      refine own_via (fun t k => XS.bipush XL.here hx rfl (hb hby d1_62) k) ?_
      show OwnEnds p.tables e below _ (TL.setTop (mkF m 64 #[.val (.ref a0), .val (.int p1), .val (.int p2), .val (.int p3), .val (.int p4), .val (.int mn), .val (.int mx), .val (.int jv), sl8, .unset, .unset, .unset, .unset, .unset] [(.int (32 : Int32)), (.int (mx - mn))]))
      have hc64_6 : ¬ ((mx - mn) < (32 : Int32)) := hlt'
      refine own_via (fun t k => XS.icmpYes XL.here hx rfl (pc0 := 64) (pc' := 71) rfl (hb hby d1_64) rfl (flt hc64_6).2.1 (by decide) (by decide) k) ?_
      show OwnEnds p.tables e below _ (TL.setTop (mkF m 71 #[.val (.ref a0), .val (.int p1), .val (.int p2), .val (.int p3), .val (.int p4), .val (.int mn), .val (.int mx), .val (.int jv), sl8, .unset, .unset, .unset, .unset, .unset] []))
      refine own_via (fun t k => XS.iload XL.here hx rfl (hb hby d1_71) rfl k) ?_
      show OwnEnds p.tables e below _ (TL.setTop (mkF m 73 #[.val (.ref a0), .val (.int p1), .val (.int p2), .val (.int p3), .val (.int p4), .val (.int mn), .val (.int mx), .val (.int jv), sl8, .unset, .unset, .unset, .unset, .unset] [(.int mn)]))
      refine own_via (fun t k => XS.iload XL.here hx rfl (hb hby d1_73) rfl k) ?_
      show OwnEnds p.tables e below _ (TL.setTop (mkF m 75 #[.val (.ref a0), .val (.int p1), .val (.int p2), .val (.int p3), .val (.int p4), .val (.int mn), .val (.int mx), .val (.int jv), sl8, .unset, .unset, .unset, .unset, .unset] [(.int mx), (.int mn)]))
      refine own_via (fun t k => XS.iadd XL.here hx rfl (hb hby d1_75) rfl k) ?_
      show OwnEnds p.tables e below _ (TL.setTop (mkF m 76 #[.val (.ref a0), .val (.int p1), .val (.int p2), .val (.int p3), .val (.int p4), .val (.int mn), .val (.int mx), .val (.int jv), sl8, .unset, .unset, .unset, .unset, .unset] [(.int (mn + mx))]))
      refine own_via (fun t k => XS.iconst XL.here hx rfl (hb hby d1_76) k) ?_
      show OwnEnds p.tables e below _ (TL.setTop (mkF m 77 #[.val (.ref a0), .val (.int p1), .val (.int p2), .val (.int p3), .val (.int p4), .val (.int mn), .val (.int mx), .val (.int jv), sl8, .unset, .unset, .unset, .unset, .unset] [(.int (1 : Int32)), (.int (mn + mx))]))
      refine own_via (fun t k => XS.iadd XL.here hx rfl (hb hby d1_77) rfl k) ?_
      show OwnEnds p.tables e below _ (TL.setTop (mkF m 78 #[.val (.ref a0), .val (.int p1), .val (.int p2), .val (.int p3), .val (.int p4), .val (.int mn), .val (.int mx), .val (.int jv), sl8, .unset, .unset, .unset, .unset, .unset] [(.int ((mn + mx) + (1 : Int32)))]))
      refine own_via (fun t k => XS.iconst XL.here hx rfl (hb hby d1_78) k) ?_
      show OwnEnds p.tables e below _ (TL.setTop (mkF m 79 #[.val (.ref a0), .val (.int p1), .val (.int p2), .val (.int p3), .val (.int p4), .val (.int mn), .val (.int mx), .val (.int jv), sl8, .unset, .unset, .unset, .unset, .unset] [(.int (2 : Int32)), (.int ((mn + mx) + (1 : Int32)))]))
      refine own_via (fun t k => XS.idiv XL.here hx rfl (hb hby d1_79) rfl (by decide) k) ?_
      show OwnEnds p.tables e below _ (TL.setTop (mkF m 80 #[.val (.ref a0), .val (.int p1), .val (.int p2), .val (.int p3), .val (.int p4), .val (.int mn), .val (.int mx), .val (.int jv), sl8, .unset, .unset, .unset, .unset, .unset] [(.int (((mn + mx) + (1 : Int32)) / (2 : Int32)))]))
      obtain ⟨tv, h_tv⟩ : ∃ z, z = (((mn + mx) + (1 : Int32)) / (2 : Int32)) := ⟨_, rfl⟩
      rw [← h_tv]
      have htv : tv = own_T (own_mm (own_gs ys k wd) 255 0) := by rw [hMM]; exact h_tv
      have hTb := own_Tb h_tv hbd.1 hbd.2
      refine own_via (fun t k => XS.istore XL.here hx rfl (hb hby d1_80) rfl (l' := #[.val (.ref a0), .val (.int p1), .val (.int p2), .val (.int p3), .val (.int p4), .val (.int mn), .val (.int mx), .val (.int tv), sl8, .unset, .unset, .unset, .unset, .unset]) rfl k) ?_
      show OwnEnds p.tables e below _ (TL.setTop (mkF m 82 #[.val (.ref a0), .val (.int p1), .val (.int p2), .val (.int p3), .val (.int p4), .val (.int mn), .val (.int mx), .val (.int tv), sl8, .unset, .unset, .unset, .unset, .unset] []))
      refine own_via (fun t k => XS.iload XL.here hx rfl (hb hby d1_82) rfl k) ?_
      show OwnEnds p.tables e below _ (TL.setTop (mkF m 84 #[.val (.ref a0), .val (.int p1), .val (.int p2), .val (.int p3), .val (.int p4), .val (.int mn), .val (.int mx), .val (.int tv), sl8, .unset, .unset, .unset, .unset, .unset] [(.int p4)]))
      refine own_via (fun t k => XS.iloadN XL.here hx rfl (hb hby d1_84) rfl k) ?_
      show OwnEnds p.tables e below _ (TL.setTop (mkF m 85 #[.val (.ref a0), .val (.int p1), .val (.int p2), .val (.int p3), .val (.int p4), .val (.int mn), .val (.int mx), .val (.int tv), sl8, .unset, .unset, .unset, .unset, .unset] [(.int p3), (.int p4)]))
      refine own_via (fun t k => XS.isub XL.here hx rfl (hb hby d1_85) rfl k) ?_
      show OwnEnds p.tables e below _ (TL.setTop (mkF m 86 #[.val (.ref a0), .val (.int p1), .val (.int p2), .val (.int p3), .val (.int p4), .val (.int mn), .val (.int mx), .val (.int tv), sl8, .unset, .unset, .unset, .unset, .unset] [(.int (p4 - p3))]))
      refine own_via (fun t k => XS.iconst XL.here hx rfl (hb hby d1_86) k) ?_
      show OwnEnds p.tables e below _ (TL.setTop (mkF m 87 #[.val (.ref a0), .val (.int p1), .val (.int p2), .val (.int p3), .val (.int p4), .val (.int mn), .val (.int mx), .val (.int tv), sl8, .unset, .unset, .unset, .unset, .unset] [(.int (2 : Int32)), (.int (p4 - p3))]))
      refine own_via (fun t k => XS.iadd XL.here hx rfl (hb hby d1_87) rfl k) ?_
      show OwnEnds p.tables e below _ (TL.setTop (mkF m 88 #[.val (.ref a0), .val (.int p1), .val (.int p2), .val (.int p3), .val (.int p4), .val (.int mn), .val (.int mx), .val (.int tv), sl8, .unset, .unset, .unset, .unset, .unset] [(.int ((p4 - p3) + (2 : Int32)))]))
      have hcn := own_cn (own_cnt hfN htN hft (by omega))
      obtain ⟨T7, h7, k7, X7, e7, E7, A7, EE7, st7⟩ := newPE XL hx hZ (hw _ (List.mem_of_getElem? (i := 14) rfl)) eL (g := (mkF m 88 #[.val (.ref a0), .val (.int p1), .val (.int p2), .val (.int p3), .val (.int p4), .val (.int mn), .val (.int mx), .val (.int tv), sl8, .unset, .unset, .unset, .unset, .unset] [(.int ((p4 - p3) + (2 : Int32)))])) rfl (hb hby d1_88) rfl hcn.1 (cap := 6) (by rw [hcn.2]; omega) (by decide) (by decide) (by decide) (ad := "[I") (by decide +kernel)
      obtain ⟨b8, g7⟩ : ∃ z, z = h0.size := ⟨_, rfl⟩
      rw [← g7] at A7 EE7 st7
      have ne_a0_b8 : a0 ≠ b8 := Nat.ne_of_lt (Nat.lt_of_lt_of_le A_a0.lt (Nat.le_of_eq g7.symm))
      have g_b8 : n0 ≤ b8 := Nat.le_trans Z0 (Nat.le_of_eq g7.symm)
      have sz_b8 : h0.size ≤ b8 := Nat.le_trans K0.1 (Nat.le_of_eq g7.symm)
      have Zs_7 : n0 ≤ _ := Nat.le_trans Z0 E7.1
      replace A_a0 := A_a0.ext E7
      replace K0 := K0.ext E7
      have A_b8 : AL Z h7 b8 .int (own_iv (List.replicate (tN - fN + 2) 0)) := by rw [← own_iv_rep]; exact AL.new A7 hcn.1 (i := tN - fN + 2) hcn.2
      have E_b8 := EE7
      refine own_via st7 ?_
      show OwnEnds p.tables e below _ (T7.setTop (mkF m 90 #[.val (.ref a0), .val (.int p1), .val (.int p2), .val (.int p3), .val (.int p4), .val (.int mn), .val (.int mx), .val (.int tv), sl8, .unset, .unset, .unset, .unset, .unset] [(.ref b8)]))
      refine own_via (fun t k => XS.astore X7.here hx rfl (hb hby d1_90) rfl rfl (l' := #[.val (.ref a0), .val (.int p1), .val (.int p2), .val (.int p3), .val (.int p4), .val (.int mn), .val (.int mx), .val (.int tv), .val (.ref b8), .unset, .unset, .unset, .unset, .unset]) (XS.store1 rfl one_sl8 rfl) k) ?_
      show OwnEnds p.tables e below _ (T7.setTop (mkF m 92 #[.val (.ref a0), .val (.int p1), .val (.int p2), .val (.int p3), .val (.int p4), .val (.int mn), .val (.int mx), .val (.int tv), .val (.ref b8), .unset, .unset, .unset, .unset, .unset] []))
      refine own_via (fun t k => XS.iconst X7.here hx rfl (hb hby d1_92) k) ?_
      show OwnEnds p.tables e below _ (T7.setTop (mkF m 93 #[.val (.ref a0), .val (.int p1), .val (.int p2), .val (.int p3), .val (.int p4), .val (.int mn), .val (.int mx), .val (.int tv), .val (.ref b8), .unset, .unset, .unset, .unset, .unset] [(.int (0 : Int32))]))
      refine own_via (fun t k => XS.istore X7.here hx rfl (hb hby d1_93) rfl (l' := #[.val (.ref a0), .val (.int p1), .val (.int p2), .val (.int p3), .val (.int p4), .val (.int mn), .val (.int mx), .val (.int tv), .val (.ref b8), .val (.int (0 : Int32)), .unset, .unset, .unset, .unset]) rfl k) ?_
      show OwnEnds p.tables e below _ (T7.setTop (mkF m 95 #[.val (.ref a0), .val (.int p1), .val (.int p2), .val (.int p3), .val (.int p4), .val (.int mn), .val (.int mx), .val (.int tv), .val (.ref b8), .val (.int (0 : Int32)), .unset, .unset, .unset, .unset] []))
      refine own_via (fun t k => XS.iconst X7.here hx rfl (hb hby d1_95) k) ?_
      show OwnEnds p.tables e below _ (T7.setTop (mkF m 96 #[.val (.ref a0), .val (.int p1), .val (.int p2), .val (.int p3), .val (.int p4), .val (.int mn), .val (.int mx), .val (.int tv), .val (.ref b8), .val (.int (0 : Int32)), .unset, .unset, .unset, .unset] [(.int (0 : Int32))]))
      refine own_via (fun t k => XS.istore X7.here hx rfl (hb hby d1_96) rfl (l' := #[.val (.ref a0), .val (.int p1), .val (.int p2), .val (.int p3), .val (.int p4), .val (.int mn), .val (.int mx), .val (.int tv), .val (.ref b8), .val (.int (0 : Int32)), .val (.int (0 : Int32)), .unset, .unset, .unset]) rfl k) ?_
      show OwnEnds p.tables e below _ (T7.setTop (mkF m 98 #[.val (.ref a0), .val (.int p1), .val (.int p2), .val (.int p3), .val (.int p4), .val (.int mn), .val (.int mx), .val (.int tv), .val (.ref b8), .val (.int (0 : Int32)), .val (.int (0 : Int32)), .unset, .unset, .unset] []))
      refine own_via (fun t k => XS.iloadN X7.here hx rfl (hb hby d1_98) rfl k) ?_
      show OwnEnds p.tables e below _ (T7.setTop (mkF m 99 #[.val (.ref a0), .val (.int p1), .val (.int p2), .val (.int p3), .val (.int p4), .val (.int mn), .val (.int mx), .val (.int tv), .val (.ref b8), .val (.int (0 : Int32)), .val (.int (0 : Int32)), .unset, .unset, .unset] [(.int p3)]))
      refine own_via (fun t k => XS.istore X7.here hx rfl (hb hby d1_99) rfl (l' := #[.val (.ref a0), .val (.int p1), .val (.int p2), .val (.int p3), .val (.int p4), .val (.int mn), .val (.int mx), .val (.int tv), .val (.ref b8), .val (.int (0 : Int32)), .val (.int (0 : Int32)), .val (.int p3), .unset, .unset]) rfl k) ?_
      show OwnEnds p.tables e below _ (T7.setTop (mkF m 101 #[.val (.ref a0), .val (.int p1), .val (.int p2), .val (.int p3), .val (.int p4), .val (.int mn), .val (.int mx), .val (.int tv), .val (.ref b8), .val (.int (0 : Int32)), .val (.int (0 : Int32)), .val (.int p3), .unset, .unset] []))
      have loop2 : ∀ (n iN ev : Nat) (xs : List Int32) (cb : Bool) (iv : Int32) (sl2 : Slot) (TL : State) (hL : Heap) (locsL : List Loc), iN + n = tN → fN ≤ iN → ev + fN ≤ iN → iv.toInt = iN → xs.length = tN - fN + 2 → own_l2 (own_ds ys tv (k + iN) n) xs ev cb iv = (own_l2 (own_ds ys tv (k + fN) (tN - fN)) (List.replicate (tN - fN + 2) 0) 0 false p3) → (sl2 = .unset ∨ ∃ w, sl2 = .val w ∧ w.category = 1) → Stand p l e ({ frames := 2, cells := 2, slots := 12, locals := 54 } : Room) s m #[(.ref a0), (.int p1), (.int p2), (.int p3), (.int p4)] below meth c TL locsL 1 6 → TL.heap = hL → Fr n0 locsL → n0 ≤ hL.size → Keep h0 hL [] → AL Z hL a0 .byte (own_iv ys) → AL Z hL b8 .int (own_iv xs) → Exa Z hL b8 "[I" → OwnEnds p.tables e below (OwnQ s ({ frames := 2, cells := 2, slots := 12, locals := 54 } : Room).cells ({ frames := 2, cells := 2, slots := 12, locals := 54 } : Room).slots (Q1b Z a0 p1 p2 p3 p4 ys k wd fN tN h0 n0)) (TL.setTop (mkF m 101 #[.val (.ref a0), .val (.int p1), .val (.int p2), .val (.int p3), .val (.int p4), .val (.int mn), .val (.int mx), .val (.int tv), .val (.ref b8), .val (.int (Int32.ofNat ev)), .val (.int (own_bit cb)), .val (.int iv), sl2, .unset] [])) := by
        intro n
        induction n with
        | succ n ih =>
          intro iN ev xs cb iv sl2 TL hL locsL hin hfi hev hiv hxl hl2 one_sl2 XL eL NL ZL K0 A_a0 A_b8 E_b8
          have hless : iv < p4 := by rw [Int32.lt_iff_toInt_lt, htN, hiv]; omega
          show OwnEnds p.tables e below _ (TL.setTop (mkF m 101 #[.val (.ref a0), .val (.int p1), .val (.int p2), .val (.int p3), .val (.int p4), .val (.int mn), .val (.int mx), .val (.int tv), .val (.ref b8), .val (.int (Int32.ofNat ev)), .val (.int (own_bit cb)), .val (.int iv), sl2, .unset] []))
          refine own_via (fun t k => XS.iload XL.here hx rfl (hb hby d1_101) rfl k) ?_
          show OwnEnds p.tables e below _ (TL.setTop (mkF m 103 #[.val (.ref a0), .val (.int p1), .val (.int p2), .val (.int p3), .val (.int p4), .val (.int mn), .val (.int mx), .val (.int tv), .val (.ref b8), .val (.int (Int32.ofNat ev)), .val (.int (own_bit cb)), .val (.int iv), sl2, .unset] [(.int iv)]))
          refine own_via (fun t k => XS.iload XL.here hx rfl (hb hby d1_103) rfl k) ?_
          show OwnEnds p.tables e below _ (TL.setTop (mkF m 105 #[.val (.ref a0), .val (.int p1), .val (.int p2), .val (.int p3), .val (.int p4), .val (.int mn), .val (.int mx), .val (.int tv), .val (.ref b8), .val (.int (Int32.ofNat ev)), .val (.int (own_bit cb)), .val (.int iv), sl2, .unset] [(.int p4), (.int iv)]))
          have hc105_8 : iv < p4 := hless
          refine own_via (fun t k => XS.icmpNo XL.here hx rfl (hb hby d1_105) rfl (tlt hc105_8).2.1 k) ?_
          show OwnEnds p.tables e below _ (TL.setTop (mkF m 108 #[.val (.ref a0), .val (.int p1), .val (.int p2), .val (.int p3), .val (.int p4), .val (.int mn), .val (.int mx), .val (.int tv), .val (.ref b8), .val (.int (Int32.ofNat ev)), .val (.int (own_bit cb)), .val (.int iv), sl2, .unset] []))
          refine own_via (fun t k => XS.aloadN XL.here hx rfl (hb hby d1_108) rfl rfl k) ?_
          show OwnEnds p.tables e below _ (TL.setTop (mkF m 109 #[.val (.ref a0), .val (.int p1), .val (.int p2), .val (.int p3), .val (.int p4), .val (.int mn), .val (.int mx), .val (.int tv), .val (.ref b8), .val (.int (Int32.ofNat ev)), .val (.int (own_bit cb)), .val (.int iv), sl2, .unset] [(.ref a0)]))
          refine own_via (fun t k => XS.iloadN XL.here hx rfl (hb hby d1_109) rfl k) ?_
          show OwnEnds p.tables e below _ (TL.setTop (mkF m 110 #[.val (.ref a0), .val (.int p1), .val (.int p2), .val (.int p3), .val (.int p4), .val (.int mn), .val (.int mx), .val (.int tv), .val (.ref b8), .val (.int (Int32.ofNat ev)), .val (.int (own_bit cb)), .val (.int iv), sl2, .unset] [(.int p1), (.ref a0)]))
          refine own_via (fun t k => XS.iload XL.here hx rfl (hb hby d1_110) rfl k) ?_
          show OwnEnds p.tables e below _ (TL.setTop (mkF m 112 #[.val (.ref a0), .val (.int p1), .val (.int p2), .val (.int p3), .val (.int p4), .val (.int mn), .val (.int mx), .val (.int tv), .val (.ref b8), .val (.int (Int32.ofNat ev)), .val (.int (own_bit cb)), .val (.int iv), sl2, .unset] [(.int iv), (.int p1), (.ref a0)]))
          refine own_via (fun t k => XS.iadd XL.here hx rfl (hb hby d1_112) rfl k) ?_
          show OwnEnds p.tables e below _ (TL.setTop (mkF m 113 #[.val (.ref a0), .val (.int p1), .val (.int p2), .val (.int p3), .val (.int p4), .val (.int mn), .val (.int mx), .val (.int tv), .val (.ref b8), .val (.int (Int32.ofNat ev)), .val (.int (own_bit cb)), .val (.int iv), sl2, .unset] [(.int (p1 + iv)), (.ref a0)]))
          refine own_via (own_ldB XL hx hZ eL A_a0 (v := (.int (ys.getD (k + iN) 0))) (k + iN) (own_addi hk hiv (by omega)) (own_iv_get (by omega)) (g := (mkF m 113 #[.val (.ref a0), .val (.int p1), .val (.int p2), .val (.int p3), .val (.int p4), .val (.int mn), .val (.int mx), .val (.int tv), .val (.ref b8), .val (.int (Int32.ofNat ev)), .val (.int (own_bit cb)), .val (.int iv), sl2, .unset] [(.int (p1 + iv)), (.ref a0)])) rfl rfl (hb hby d1_113)) ?_
          show OwnEnds p.tables e below _ (TL.setTop (mkF m 114 #[.val (.ref a0), .val (.int p1), .val (.int p2), .val (.int p3), .val (.int p4), .val (.int mn), .val (.int mx), .val (.int tv), .val (.ref b8), .val (.int (Int32.ofNat ev)), .val (.int (own_bit cb)), .val (.int iv), sl2, .unset] [(.int (ys.getD (k + iN) 0))]))
          refine own_via (fun t k => XS.sipush XL.here hx rfl (hb hby d1_114) k) ?_
          show OwnEnds p.tables e below _ (TL.setTop (mkF m 117 #[.val (.ref a0), .val (.int p1), .val (.int p2), .val (.int p3), .val (.int p4), .val (.int mn), .val (.int mx), .val (.int tv), .val (.ref b8), .val (.int (Int32.ofNat ev)), .val (.int (own_bit cb)), .val (.int iv), sl2, .unset] [(.int (255 : Int32)), (.int (ys.getD (k + iN) 0))]))
          refine own_via (fun t k => XS.iand XL.here hx rfl (hb hby d1_117) rfl k) ?_
          show OwnEnds p.tables e below _ (TL.setTop (mkF m 118 #[.val (.ref a0), .val (.int p1), .val (.int p2), .val (.int p3), .val (.int p4), .val (.int mn), .val (.int mx), .val (.int tv), .val (.ref b8), .val (.int (Int32.ofNat ev)), .val (.int (own_bit cb)), .val (.int iv), sl2, .unset] [(.int ((ys.getD (k + iN) 0) &&& (255 : Int32)))]))
          refine own_via (fun t k => XS.iload XL.here hx rfl (hb hby d1_118) rfl k) ?_
          show OwnEnds p.tables e below _ (TL.setTop (mkF m 120 #[.val (.ref a0), .val (.int p1), .val (.int p2), .val (.int p3), .val (.int p4), .val (.int mn), .val (.int mx), .val (.int tv), .val (.ref b8), .val (.int (Int32.ofNat ev)), .val (.int (own_bit cb)), .val (.int iv), sl2, .unset] [(.int tv), (.int ((ys.getD (k + iN) 0) &&& (255 : Int32)))]))
          refine own_via (fun t k => XS.isub XL.here hx rfl (hb hby d1_120) rfl k) ?_
          show OwnEnds p.tables e below _ (TL.setTop (mkF m 121 #[.val (.ref a0), .val (.int p1), .val (.int p2), .val (.int p3), .val (.int p4), .val (.int mn), .val (.int mx), .val (.int tv), .val (.ref b8), .val (.int (Int32.ofNat ev)), .val (.int (own_bit cb)), .val (.int iv), sl2, .unset] [(.int (((ys.getD (k + iN) 0) &&& (255 : Int32)) - tv))]))
          refine own_via (fun t k => XS.bipush XL.here hx rfl (hb hby d1_121) k) ?_
          show OwnEnds p.tables e below _ (TL.setTop (mkF m 123 #[.val (.ref a0), .val (.int p1), .val (.int p2), .val (.int p3), .val (.int p4), .val (.int mn), .val (.int mx), .val (.int tv), .val (.ref b8), .val (.int (Int32.ofNat ev)), .val (.int (own_bit cb)), .val (.int iv), sl2, .unset] [(.int (31 : Int32)), (.int (((ys.getD (k + iN) 0) &&& (255 : Int32)) - tv))]))
          refine own_via (fun t k => XS.iushr XL.here hx rfl (hb hby d1_123) rfl k) ?_
          show OwnEnds p.tables e below _ (TL.setTop (mkF m 124 #[.val (.ref a0), .val (.int p1), .val (.int p2), .val (.int p3), .val (.int p4), .val (.int mn), .val (.int mx), .val (.int tv), .val (.ref b8), .val (.int (Int32.ofNat ev)), .val (.int (own_bit cb)), .val (.int iv), sl2, .unset] [(.int (((((ys.getD (k + iN) 0) &&& (255 : Int32)) - tv).toUInt32 >>> ((31 : Int32) &&& 31).toUInt32).toInt32))]))
          rw [own_dark (own_gb rfl) hTb]
          obtain ⟨db, hdb⟩ : ∃ z, z = decide ((ys.getD (k + iN) 0 &&& (255 : Int32)) < tv) := ⟨_, rfl⟩
          rw [← hdb]
          show OwnEnds p.tables e below _ (TL.setTop (mkF m 124 #[.val (.ref a0), .val (.int p1), .val (.int p2), .val (.int p3), .val (.int p4), .val (.int mn), .val (.int mx), .val (.int tv), .val (.ref b8), .val (.int (Int32.ofNat ev)), .val (.int (own_bit cb)), .val (.int iv), sl2, .unset] [(.int (own_bit db))]))
          refine own_via (fun t k => XS.istore XL.here hx rfl (hb hby d1_124) rfl (l' := #[.val (.ref a0), .val (.int p1), .val (.int p2), .val (.int p3), .val (.int p4), .val (.int mn), .val (.int mx), .val (.int tv), .val (.ref b8), .val (.int (Int32.ofNat ev)), .val (.int (own_bit cb)), .val (.int iv), .val (.int (own_bit db)), .unset]) (XS.store1 rfl one_sl2 rfl) k) ?_
          show OwnEnds p.tables e below _ (TL.setTop (mkF m 126 #[.val (.ref a0), .val (.int p1), .val (.int p2), .val (.int p3), .val (.int p4), .val (.int mn), .val (.int mx), .val (.int tv), .val (.ref b8), .val (.int (Int32.ofNat ev)), .val (.int (own_bit cb)), .val (.int iv), .val (.int (own_bit db)), .unset] []))
          refine own_via (fun t k => XS.aload XL.here hx rfl (hb hby d1_126) rfl rfl k) ?_
          show OwnEnds p.tables e below _ (TL.setTop (mkF m 128 #[.val (.ref a0), .val (.int p1), .val (.int p2), .val (.int p3), .val (.int p4), .val (.int mn), .val (.int mx), .val (.int tv), .val (.ref b8), .val (.int (Int32.ofNat ev)), .val (.int (own_bit cb)), .val (.int iv), .val (.int (own_bit db)), .unset] [(.ref b8)]))
          refine own_via (fun t k => XS.iload XL.here hx rfl (hb hby d1_128) rfl k) ?_
          show OwnEnds p.tables e below _ (TL.setTop (mkF m 130 #[.val (.ref a0), .val (.int p1), .val (.int p2), .val (.int p3), .val (.int p4), .val (.int mn), .val (.int mx), .val (.int tv), .val (.ref b8), .val (.int (Int32.ofNat ev)), .val (.int (own_bit cb)), .val (.int iv), .val (.int (own_bit db)), .unset] [(.int (Int32.ofNat ev)), (.ref b8)]))
          refine own_via (fun t k => XS.iload XL.here hx rfl (hb hby d1_130) rfl k) ?_
          show OwnEnds p.tables e below _ (TL.setTop (mkF m 132 #[.val (.ref a0), .val (.int p1), .val (.int p2), .val (.int p3), .val (.int p4), .val (.int mn), .val (.int mx), .val (.int tv), .val (.ref b8), .val (.int (Int32.ofNat ev)), .val (.int (own_bit cb)), .val (.int iv), .val (.int (own_bit db)), .unset] [(.int iv), (.int (Int32.ofNat ev)), (.ref b8)]))
          obtain ⟨T9, h9, X9, e9, W9, AA9, st9⟩ := own_stI XL hx hZ eL A_b8 ev (own_ofN (by omega)) (by rw [own_iv_len]; omega) (g := (mkF m 132 #[.val (.ref a0), .val (.int p1), .val (.int p2), .val (.int p3), .val (.int p4), .val (.int mn), .val (.int mx), .val (.int tv), .val (.ref b8), .val (.int (Int32.ofNat ev)), .val (.int (own_bit cb)), .val (.int iv), .val (.int (own_bit db)), .unset] [(.int iv), (.int (Int32.ofNat ev)), (.ref b8)])) rfl rfl (hb hby d1_132)
          replace A_a0 := A_a0.other W9 ne_a0_b8
          replace E_b8 := E_b8.wr W9
          replace K0 := K0.wr W9 (Or.inr sz_b8)
          have Zs_W9 : n0 ≤ _ := Nat.le_trans ZL (Keep.of_wr W9).1
          replace A_b8 : AL Z h9 b8 .int ((own_iv xs).set ev (.int iv)) := AA9
          have N9 := Fr.snoc X9 NL g_b8
          refine own_via st9 ?_
          show OwnEnds p.tables e below _ (T9.setTop (mkF m 133 #[.val (.ref a0), .val (.int p1), .val (.int p2), .val (.int p3), .val (.int p4), .val (.int mn), .val (.int mx), .val (.int tv), .val (.ref b8), .val (.int (Int32.ofNat ev)), .val (.int (own_bit cb)), .val (.int iv), .val (.int (own_bit db)), .unset] []))
          refine own_via (fun t k => XS.iload X9.here hx rfl (hb hby d1_133) rfl k) ?_
          show OwnEnds p.tables e below _ (T9.setTop (mkF m 135 #[.val (.ref a0), .val (.int p1), .val (.int p2), .val (.int p3), .val (.int p4), .val (.int mn), .val (.int mx), .val (.int tv), .val (.ref b8), .val (.int (Int32.ofNat ev)), .val (.int (own_bit cb)), .val (.int iv), .val (.int (own_bit db)), .unset] [(.int (Int32.ofNat ev))]))
          refine own_via (fun t k => XS.iload X9.here hx rfl (hb hby d1_135) rfl k) ?_
          show OwnEnds p.tables e below _ (T9.setTop (mkF m 137 #[.val (.ref a0), .val (.int p1), .val (.int p2), .val (.int p3), .val (.int p4), .val (.int mn), .val (.int mx), .val (.int tv), .val (.ref b8), .val (.int (Int32.ofNat ev)), .val (.int (own_bit cb)), .val (.int iv), .val (.int (own_bit db)), .unset] [(.int (own_bit db)), (.int (Int32.ofNat ev))]))
          refine own_via (fun t k => XS.iload X9.here hx rfl (hb hby d1_137) rfl k) ?_
          show OwnEnds p.tables e below _ (T9.setTop (mkF m 139 #[.val (.ref a0), .val (.int p1), .val (.int p2), .val (.int p3), .val (.int p4), .val (.int mn), .val (.int mx), .val (.int tv), .val (.ref b8), .val (.int (Int32.ofNat ev)), .val (.int (own_bit cb)), .val (.int iv), .val (.int (own_bit db)), .unset] [(.int (own_bit cb)), (.int (own_bit db)), (.int (Int32.ofNat ev))]))
          refine own_via (fun t k => XS.ixor X9.here hx rfl (hb hby d1_139) rfl k) ?_
          show OwnEnds p.tables e below _ (T9.setTop (mkF m 140 #[.val (.ref a0), .val (.int p1), .val (.int p2), .val (.int p3), .val (.int p4), .val (.int mn), .val (.int mx), .val (.int tv), .val (.ref b8), .val (.int (Int32.ofNat ev)), .val (.int (own_bit cb)), .val (.int iv), .val (.int (own_bit db)), .unset] [(.int ((own_bit db) ^^^ (own_bit cb))), (.int (Int32.ofNat ev))]))
          refine own_via (fun t k => XS.iadd X9.here hx rfl (hb hby d1_140) rfl k) ?_
          show OwnEnds p.tables e below _ (T9.setTop (mkF m 141 #[.val (.ref a0), .val (.int p1), .val (.int p2), .val (.int p3), .val (.int p4), .val (.int mn), .val (.int mx), .val (.int tv), .val (.ref b8), .val (.int (Int32.ofNat ev)), .val (.int (own_bit cb)), .val (.int iv), .val (.int (own_bit db)), .unset] [(.int ((Int32.ofNat ev) + ((own_bit db) ^^^ (own_bit cb))))]))
          refine own_via (fun t k => XS.istore X9.here hx rfl (hb hby d1_141) rfl (l' := #[.val (.ref a0), .val (.int p1), .val (.int p2), .val (.int p3), .val (.int p4), .val (.int mn), .val (.int mx), .val (.int tv), .val (.ref b8), .val (.int ((Int32.ofNat ev) + ((own_bit db) ^^^ (own_bit cb)))), .val (.int (own_bit cb)), .val (.int iv), .val (.int (own_bit db)), .unset]) rfl k) ?_
          show OwnEnds p.tables e below _ (T9.setTop (mkF m 143 #[.val (.ref a0), .val (.int p1), .val (.int p2), .val (.int p3), .val (.int p4), .val (.int mn), .val (.int mx), .val (.int tv), .val (.ref b8), .val (.int ((Int32.ofNat ev) + ((own_bit db) ^^^ (own_bit cb)))), .val (.int (own_bit cb)), .val (.int iv), .val (.int (own_bit db)), .unset] []))
          refine own_via (fun t k => XS.iload X9.here hx rfl (hb hby d1_143) rfl k) ?_
          show OwnEnds p.tables e below _ (T9.setTop (mkF m 145 #[.val (.ref a0), .val (.int p1), .val (.int p2), .val (.int p3), .val (.int p4), .val (.int mn), .val (.int mx), .val (.int tv), .val (.ref b8), .val (.int ((Int32.ofNat ev) + ((own_bit db) ^^^ (own_bit cb)))), .val (.int (own_bit cb)), .val (.int iv), .val (.int (own_bit db)), .unset] [(.int (own_bit db))]))
          refine own_via (fun t k => XS.istore X9.here hx rfl (hb hby d1_145) rfl (l' := #[.val (.ref a0), .val (.int p1), .val (.int p2), .val (.int p3), .val (.int p4), .val (.int mn), .val (.int mx), .val (.int tv), .val (.ref b8), .val (.int ((Int32.ofNat ev) + ((own_bit db) ^^^ (own_bit cb)))), .val (.int (own_bit db)), .val (.int iv), .val (.int (own_bit db)), .unset]) rfl k) ?_
          show OwnEnds p.tables e below _ (T9.setTop (mkF m 147 #[.val (.ref a0), .val (.int p1), .val (.int p2), .val (.int p3), .val (.int p4), .val (.int mn), .val (.int mx), .val (.int tv), .val (.ref b8), .val (.int ((Int32.ofNat ev) + ((own_bit db) ^^^ (own_bit cb)))), .val (.int (own_bit db)), .val (.int iv), .val (.int (own_bit db)), .unset] []))
          refine own_via (fun t k => XS.iinc X9.here hx rfl (hb hby d1_147) rfl (l' := #[.val (.ref a0), .val (.int p1), .val (.int p2), .val (.int p3), .val (.int p4), .val (.int mn), .val (.int mx), .val (.int tv), .val (.ref b8), .val (.int ((Int32.ofNat ev) + ((own_bit db) ^^^ (own_bit cb)))), .val (.int (own_bit db)), .val (.int (iv + (1 : Int32))), .val (.int (own_bit db)), .unset]) rfl k) ?_
          show OwnEnds p.tables e below _ (T9.setTop (mkF m 150 #[.val (.ref a0), .val (.int p1), .val (.int p2), .val (.int p3), .val (.int p4), .val (.int mn), .val (.int mx), .val (.int tv), .val (.ref b8), .val (.int ((Int32.ofNat ev) + ((own_bit db) ^^^ (own_bit cb)))), .val (.int (own_bit db)), .val (.int (iv + (1 : Int32))), .val (.int (own_bit db)), .unset] []))
          refine own_via (fun t k => XS.goto X9.here hx rfl (pc0 := 150) (pc' := 101) rfl (hb hby d1_150) (by decide) (by decide) k) ?_
          show OwnEnds p.tables e below _ (T9.setTop (mkF m 101 #[.val (.ref a0), .val (.int p1), .val (.int p2), .val (.int p3), .val (.int p4), .val (.int mn), .val (.int mx), .val (.int tv), .val (.ref b8), .val (.int ((Int32.ofNat ev) + ((own_bit db) ^^^ (own_bit cb)))), .val (.int (own_bit db)), .val (.int (iv + (1 : Int32))), .val (.int (own_bit db)), .unset] []))
          rw [own_iv_set] at A_b8
          rw [own_xe]
          have hl2' := hl2
          simp only [own_ds, own_l2, ← hdb] at hl2'
          exact ih (iN + 1) (if db = cb then ev else ev + 1) (xs.set ev iv) db (iv + 1) _ _ _ _ (by omega) (by omega) (by split <;> omega) (own_inc hiv (by omega)) (by rw [List.length_set]; exact hxl) hl2' (Or.inr ⟨_, rfl, rfl⟩) X9 e9 N9 Zs_W9 K0 A_a0 A_b8 E_b8
        | zero =>
          intro iN ev xs cb iv sl2 TL hL locsL hin hfi hev hiv hxl hl2 one_sl2 XL eL NL ZL K0 A_a0 A_b8 E_b8
          have hend : ¬ iv < p4 := by rw [Int32.lt_iff_toInt_lt, htN, hiv]; omega
          have hRR : (own_l2 (own_ds ys tv (k + fN) (tN - fN)) (List.replicate (tN - fN + 2) 0) 0 false p3) = (xs, ev, cb) := hl2.symm
          show OwnEnds p.tables e below _ (TL.setTop (mkF m 101 #[.val (.ref a0), .val (.int p1), .val (.int p2), .val (.int p3), .val (.int p4), .val (.int mn), .val (.int mx), .val (.int tv), .val (.ref b8), .val (.int (Int32.ofNat ev)), .val (.int (own_bit cb)), .val (.int iv), sl2, .unset] []))
          refine own_via (fun t k => XS.iload XL.here hx rfl (hb hby d1_101) rfl k) ?_
          show OwnEnds p.tables e below _ (TL.setTop (mkF m 103 #[.val (.ref a0), .val (.int p1), .val (.int p2), .val (.int p3), .val (.int p4), .val (.int mn), .val (.int mx), .val (.int tv), .val (.ref b8), .val (.int (Int32.ofNat ev)), .val (.int (own_bit cb)), .val (.int iv), sl2, .unset] [(.int iv)]))
          refine own_via (fun t k => XS.iload XL.here hx rfl (hb hby d1_103) rfl k) ?_
          show OwnEnds p.tables e below _ (TL.setTop (mkF m 105 #[.val (.ref a0), .val (.int p1), .val (.int p2), .val (.int p3), .val (.int p4), .val (.int mn), .val (.int mx), .val (.int tv), .val (.ref b8), .val (.int (Int32.ofNat ev)), .val (.int (own_bit cb)), .val (.int iv), sl2, .unset] [(.int p4), (.int iv)]))
          have hc105_10 : ¬ (iv < p4) := hend
          refine own_via (fun t k => XS.icmpYes XL.here hx rfl (pc0 := 105) (pc' := 153) rfl (hb hby d1_105) rfl (flt hc105_10).2.1 (by decide) (by decide) k) ?_
          show OwnEnds p.tables e below _ (TL.setTop (mkF m 153 #[.val (.ref a0), .val (.int p1), .val (.int p2), .val (.int p3), .val (.int p4), .val (.int mn), .val (.int mx), .val (.int tv), .val (.ref b8), .val (.int (Int32.ofNat ev)), .val (.int (own_bit cb)), .val (.int iv), sl2, .unset] []))
          refine own_via (fun t k => XS.aload XL.here hx rfl (hb hby d1_153) rfl rfl k) ?_
          show OwnEnds p.tables e below _ (TL.setTop (mkF m 155 #[.val (.ref a0), .val (.int p1), .val (.int p2), .val (.int p3), .val (.int p4), .val (.int mn), .val (.int mx), .val (.int tv), .val (.ref b8), .val (.int (Int32.ofNat ev)), .val (.int (own_bit cb)), .val (.int iv), sl2, .unset] [(.ref b8)]))
          refine own_via (fun t k => XS.iload XL.here hx rfl (hb hby d1_155) rfl k) ?_
          show OwnEnds p.tables e below _ (TL.setTop (mkF m 157 #[.val (.ref a0), .val (.int p1), .val (.int p2), .val (.int p3), .val (.int p4), .val (.int mn), .val (.int mx), .val (.int tv), .val (.ref b8), .val (.int (Int32.ofNat ev)), .val (.int (own_bit cb)), .val (.int iv), sl2, .unset] [(.int (Int32.ofNat ev)), (.ref b8)]))
          refine own_via (fun t k => XS.iload XL.here hx rfl (hb hby d1_157) rfl k) ?_
          show OwnEnds p.tables e below _ (TL.setTop (mkF m 159 #[.val (.ref a0), .val (.int p1), .val (.int p2), .val (.int p3), .val (.int p4), .val (.int mn), .val (.int mx), .val (.int tv), .val (.ref b8), .val (.int (Int32.ofNat ev)), .val (.int (own_bit cb)), .val (.int iv), sl2, .unset] [(.int p4), (.int (Int32.ofNat ev)), (.ref b8)]))
          obtain ⟨T11, h11, X11, e11, W11, AA11, st11⟩ := own_stI XL hx hZ eL A_b8 ev (own_ofN (by omega)) (by rw [own_iv_len]; omega) (g := (mkF m 159 #[.val (.ref a0), .val (.int p1), .val (.int p2), .val (.int p3), .val (.int p4), .val (.int mn), .val (.int mx), .val (.int tv), .val (.ref b8), .val (.int (Int32.ofNat ev)), .val (.int (own_bit cb)), .val (.int iv), sl2, .unset] [(.int p4), (.int (Int32.ofNat ev)), (.ref b8)])) rfl rfl (hb hby d1_159)
          replace A_a0 := A_a0.other W11 ne_a0_b8
          replace E_b8 := E_b8.wr W11
          replace K0 := K0.wr W11 (Or.inr sz_b8)
          have Zs_W11 : n0 ≤ _ := Nat.le_trans ZL (Keep.of_wr W11).1
          replace A_b8 : AL Z h11 b8 .int ((own_iv xs).set ev (.int p4)) := AA11
          have N11 := Fr.snoc X11 NL g_b8
          refine own_via st11 ?_
          show OwnEnds p.tables e below _ (T11.setTop (mkF m 160 #[.val (.ref a0), .val (.int p1), .val (.int p2), .val (.int p3), .val (.int p4), .val (.int mn), .val (.int mx), .val (.int tv), .val (.ref b8), .val (.int (Int32.ofNat ev)), .val (.int (own_bit cb)), .val (.int iv), sl2, .unset] []))
          rw [own_iv_set] at A_b8
          refine own_via (fun t k => XS.iloadN X11.here hx rfl (hb hby d1_160) rfl k) ?_
          show OwnEnds p.tables e below _ (T11.setTop (mkF m 161 #[.val (.ref a0), .val (.int p1), .val (.int p2), .val (.int p3), .val (.int p4), .val (.int mn), .val (.int mx), .val (.int tv), .val (.ref b8), .val (.int (Int32.ofNat ev)), .val (.int (own_bit cb)), .val (.int iv), sl2, .unset] [(.int p3)]))
          refine own_via (fun t k => XS.istore X11.here hx rfl (hb hby d1_161) rfl (l' := #[.val (.ref a0), .val (.int p1), .val (.int p2), .val (.int p3), .val (.int p4), .val (.int mn), .val (.int mx), .val (.int tv), .val (.ref b8), .val (.int (Int32.ofNat ev)), .val (.int (own_bit cb)), .val (.int p3), sl2, .unset]) rfl k) ?_
          show OwnEnds p.tables e below _ (T11.setTop (mkF m 163 #[.val (.ref a0), .val (.int p1), .val (.int p2), .val (.int p3), .val (.int p4), .val (.int mn), .val (.int mx), .val (.int tv), .val (.ref b8), .val (.int (Int32.ofNat ev)), .val (.int (own_bit cb)), .val (.int p3), sl2, .unset] []))
          refine own_via (fun t k => XS.iconst X11.here hx rfl (hb hby d1_163) k) ?_
          show OwnEnds p.tables e below _ (T11.setTop (mkF m 164 #[.val (.ref a0), .val (.int p1), .val (.int p2), .val (.int p3), .val (.int p4), .val (.int mn), .val (.int mx), .val (.int tv), .val (.ref b8), .val (.int (Int32.ofNat ev)), .val (.int (own_bit cb)), .val (.int p3), sl2, .unset] [(.int (0 : Int32))]))
          refine own_via (fun t k => XS.istore X11.here hx rfl (hb hby d1_164) rfl (l' := #[.val (.ref a0), .val (.int p1), .val (.int p2), .val (.int p3), .val (.int p4), .val (.int mn), .val (.int mx), .val (.int tv), .val (.ref b8), .val (.int (Int32.ofNat ev)), .val (.int (own_bit cb)), .val (.int p3), .val (.int (0 : Int32)), .unset]) (XS.store1 rfl one_sl2 rfl) k) ?_
          show OwnEnds p.tables e below _ (T11.setTop (mkF m 166 #[.val (.ref a0), .val (.int p1), .val (.int p2), .val (.int p3), .val (.int p4), .val (.int mn), .val (.int mx), .val (.int tv), .val (.ref b8), .val (.int (Int32.ofNat ev)), .val (.int (own_bit cb)), .val (.int p3), .val (.int (0 : Int32)), .unset] []))
          have hevo := own_ofN (n := ev) (by omega)
          have loop3 : ∀ (n jN : Nat) (xs3 : List Int32) (qv jv : Int32) (sl3 : Slot) (TL : State) (hL : Heap) (locsL : List Loc), jN + n = ev + 1 → jv.toInt = jN → xs3.length = tN - fN + 2 → own_l3 n xs3 jN qv = (own_l3 (ev + 1) (xs.set ev p4) 0 p3) → (sl3 = .unset ∨ ∃ w, sl3 = .val w ∧ w.category = 1) → Stand p l e ({ frames := 2, cells := 2, slots := 12, locals := 54 } : Room) s m #[(.ref a0), (.int p1), (.int p2), (.int p3), (.int p4)] below meth c TL locsL 1 6 → TL.heap = hL → Fr n0 locsL → n0 ≤ hL.size → Keep h0 hL [] → AL Z hL a0 .byte (own_iv ys) → AL Z hL b8 .int (own_iv xs3) → Exa Z hL b8 "[I" → OwnEnds p.tables e below (OwnQ s ({ frames := 2, cells := 2, slots := 12, locals := 54 } : Room).cells ({ frames := 2, cells := 2, slots := 12, locals := 54 } : Room).slots (Q1b Z a0 p1 p2 p3 p4 ys k wd fN tN h0 n0)) (TL.setTop (mkF m 166 #[.val (.ref a0), .val (.int p1), .val (.int p2), .val (.int p3), .val (.int p4), .val (.int mn), .val (.int mx), .val (.int tv), .val (.ref b8), .val (.int (Int32.ofNat ev)), .val (.int (own_bit cb)), .val (.int qv), .val (.int jv), sl3] [])) := by
            intro n
            induction n with
            | succ n ih =>
              intro jN xs3 qv jv sl3 TL hL locsL hjn hjv hx3 hl3 one_sl3 XL eL NL ZL K0 A_a0 A_b8 E_b8
              have hless : ¬ Int32.ofNat ev < jv := by rw [Int32.lt_iff_toInt_lt, hevo, hjv]; omega
              show OwnEnds p.tables e below _ (TL.setTop (mkF m 166 #[.val (.ref a0), .val (.int p1), .val (.int p2), .val (.int p3), .val (.int p4), .val (.int mn), .val (.int mx), .val (.int tv), .val (.ref b8), .val (.int (Int32.ofNat ev)), .val (.int (own_bit cb)), .val (.int qv), .val (.int jv), sl3] []))
              refine own_via (fun t k => XS.iload XL.here hx rfl (hb hby d1_166) rfl k) ?_
              show OwnEnds p.tables e below _ (TL.setTop (mkF m 168 #[.val (.ref a0), .val (.int p1), .val (.int p2), .val (.int p3), .val (.int p4), .val (.int mn), .val (.int mx), .val (.int tv), .val (.ref b8), .val (.int (Int32.ofNat ev)), .val (.int (own_bit cb)), .val (.int qv), .val (.int jv), sl3] [(.int jv)]))
              refine own_via (fun t k => XS.iload XL.here hx rfl (hb hby d1_168) rfl k) ?_
              show OwnEnds p.tables e below _ (TL.setTop (mkF m 170 #[.val (.ref a0), .val (.int p1), .val (.int p2), .val (.int p3), .val (.int p4), .val (.int mn), .val (.int mx), .val (.int tv), .val (.ref b8), .val (.int (Int32.ofNat ev)), .val (.int (own_bit cb)), .val (.int qv), .val (.int jv), sl3] [(.int (Int32.ofNat ev)), (.int jv)]))
              have hc170_12 : ¬ ((Int32.ofNat ev) < jv) := hless
              refine own_via (fun t k => XS.icmpNo XL.here hx rfl (hb hby d1_170) rfl (flt hc170_12).2.2.1 k) ?_
              show OwnEnds p.tables e below _ (TL.setTop (mkF m 173 #[.val (.ref a0), .val (.int p1), .val (.int p2), .val (.int p3), .val (.int p4), .val (.int mn), .val (.int mx), .val (.int tv), .val (.ref b8), .val (.int (Int32.ofNat ev)), .val (.int (own_bit cb)), .val (.int qv), .val (.int jv), sl3] []))
              refine own_via (fun t k => XS.aload XL.here hx rfl (hb hby d1_173) rfl rfl k) ?_
              show OwnEnds p.tables e below _ (TL.setTop (mkF m 175 #[.val (.ref a0), .val (.int p1), .val (.int p2), .val (.int p3), .val (.int p4), .val (.int mn), .val (.int mx), .val (.int tv), .val (.ref b8), .val (.int (Int32.ofNat ev)), .val (.int (own_bit cb)), .val (.int qv), .val (.int jv), sl3] [(.ref b8)]))
              refine own_via (fun t k => XS.iload XL.here hx rfl (hb hby d1_175) rfl k) ?_
              show OwnEnds p.tables e below _ (TL.setTop (mkF m 177 #[.val (.ref a0), .val (.int p1), .val (.int p2), .val (.int p3), .val (.int p4), .val (.int mn), .val (.int mx), .val (.int tv), .val (.ref b8), .val (.int (Int32.ofNat ev)), .val (.int (own_bit cb)), .val (.int qv), .val (.int jv), sl3] [(.int jv), (.ref b8)]))
              refine own_via (own_ldI XL hx hZ eL A_b8 (v := (.int (xs3.getD jN 0))) jN hjv (own_iv_get (by omega)) (g := (mkF m 177 #[.val (.ref a0), .val (.int p1), .val (.int p2), .val (.int p3), .val (.int p4), .val (.int mn), .val (.int mx), .val (.int tv), .val (.ref b8), .val (.int (Int32.ofNat ev)), .val (.int (own_bit cb)), .val (.int qv), .val (.int jv), sl3] [(.int jv), (.ref b8)])) rfl rfl (hb hby d1_177)) ?_
              show OwnEnds p.tables e below _ (TL.setTop (mkF m 178 #[.val (.ref a0), .val (.int p1), .val (.int p2), .val (.int p3), .val (.int p4), .val (.int mn), .val (.int mx), .val (.int tv), .val (.ref b8), .val (.int (Int32.ofNat ev)), .val (.int (own_bit cb)), .val (.int qv), .val (.int jv), sl3] [(.int (xs3.getD jN 0))]))
              obtain ⟨nv, h_nv⟩ : ∃ z, z = (xs3.getD jN 0) := ⟨_, rfl⟩
              rw [← h_nv]
              refine own_via (fun t k => XS.istore XL.here hx rfl (hb hby d1_178) rfl (l' := #[.val (.ref a0), .val (.int p1), .val (.int p2), .val (.int p3), .val (.int p4), .val (.int mn), .val (.int mx), .val (.int tv), .val (.ref b8), .val (.int (Int32.ofNat ev)), .val (.int (own_bit cb)), .val (.int qv), .val (.int jv), .val (.int nv)]) (XS.store1 rfl one_sl3 rfl) k) ?_
              show OwnEnds p.tables e below _ (TL.setTop (mkF m 180 #[.val (.ref a0), .val (.int p1), .val (.int p2), .val (.int p3), .val (.int p4), .val (.int mn), .val (.int mx), .val (.int tv), .val (.ref b8), .val (.int (Int32.ofNat ev)), .val (.int (own_bit cb)), .val (.int qv), .val (.int jv), .val (.int nv)] []))
              refine own_via (fun t k => XS.aload XL.here hx rfl (hb hby d1_180) rfl rfl k) ?_
              show OwnEnds p.tables e below _ (TL.setTop (mkF m 182 #[.val (.ref a0), .val (.int p1), .val (.int p2), .val (.int p3), .val (.int p4), .val (.int mn), .val (.int mx), .val (.int tv), .val (.ref b8), .val (.int (Int32.ofNat ev)), .val (.int (own_bit cb)), .val (.int qv), .val (.int jv), .val (.int nv)] [(.ref b8)]))
              refine own_via (fun t k => XS.iload XL.here hx rfl (hb hby d1_182) rfl k) ?_
              show OwnEnds p.tables e below _ (TL.setTop (mkF m 184 #[.val (.ref a0), .val (.int p1), .val (.int p2), .val (.int p3), .val (.int p4), .val (.int mn), .val (.int mx), .val (.int tv), .val (.ref b8), .val (.int (Int32.ofNat ev)), .val (.int (own_bit cb)), .val (.int qv), .val (.int jv), .val (.int nv)] [(.int jv), (.ref b8)]))
              refine own_via (fun t k => XS.iload XL.here hx rfl (hb hby d1_184) rfl k) ?_
              show OwnEnds p.tables e below _ (TL.setTop (mkF m 186 #[.val (.ref a0), .val (.int p1), .val (.int p2), .val (.int p3), .val (.int p4), .val (.int mn), .val (.int mx), .val (.int tv), .val (.ref b8), .val (.int (Int32.ofNat ev)), .val (.int (own_bit cb)), .val (.int qv), .val (.int jv), .val (.int nv)] [(.int nv), (.int jv), (.ref b8)]))
              refine own_via (fun t k => XS.iload XL.here hx rfl (hb hby d1_186) rfl k) ?_
              show OwnEnds p.tables e below _ (TL.setTop (mkF m 188 #[.val (.ref a0), .val (.int p1), .val (.int p2), .val (.int p3), .val (.int p4), .val (.int mn), .val (.int mx), .val (.int tv), .val (.ref b8), .val (.int (Int32.ofNat ev)), .val (.int (own_bit cb)), .val (.int qv), .val (.int jv), .val (.int nv)] [(.int qv), (.int nv), (.int jv), (.ref b8)]))
              refine own_via (fun t k => XS.isub XL.here hx rfl (hb hby d1_188) rfl k) ?_
              show OwnEnds p.tables e below _ (TL.setTop (mkF m 189 #[.val (.ref a0), .val (.int p1), .val (.int p2), .val (.int p3), .val (.int p4), .val (.int mn), .val (.int mx), .val (.int tv), .val (.ref b8), .val (.int (Int32.ofNat ev)), .val (.int (own_bit cb)), .val (.int qv), .val (.int jv), .val (.int nv)] [(.int (nv - qv)), (.int jv), (.ref b8)]))
              obtain ⟨T13, h13, X13, e13, W13, AA13, st13⟩ := own_stI XL hx hZ eL A_b8 jN hjv (by rw [own_iv_len]; omega) (g := (mkF m 189 #[.val (.ref a0), .val (.int p1), .val (.int p2), .val (.int p3), .val (.int p4), .val (.int mn), .val (.int mx), .val (.int tv), .val (.ref b8), .val (.int (Int32.ofNat ev)), .val (.int (own_bit cb)), .val (.int qv), .val (.int jv), .val (.int nv)] [(.int (nv - qv)), (.int jv), (.ref b8)])) rfl rfl (hb hby d1_189)
              replace A_a0 := A_a0.other W13 ne_a0_b8
              replace E_b8 := E_b8.wr W13
              replace K0 := K0.wr W13 (Or.inr sz_b8)
              have Zs_W13 : n0 ≤ _ := Nat.le_trans ZL (Keep.of_wr W13).1
              replace A_b8 : AL Z h13 b8 .int ((own_iv xs3).set jN (.int (nv - qv))) := AA13
              have N13 := Fr.snoc X13 NL g_b8
              refine own_via st13 ?_
              show OwnEnds p.tables e below _ (T13.setTop (mkF m 190 #[.val (.ref a0), .val (.int p1), .val (.int p2), .val (.int p3), .val (.int p4), .val (.int mn), .val (.int mx), .val (.int tv), .val (.ref b8), .val (.int (Int32.ofNat ev)), .val (.int (own_bit cb)), .val (.int qv), .val (.int jv), .val (.int nv)] []))
              refine own_via (fun t k => XS.iload X13.here hx rfl (hb hby d1_190) rfl k) ?_
              show OwnEnds p.tables e below _ (T13.setTop (mkF m 192 #[.val (.ref a0), .val (.int p1), .val (.int p2), .val (.int p3), .val (.int p4), .val (.int mn), .val (.int mx), .val (.int tv), .val (.ref b8), .val (.int (Int32.ofNat ev)), .val (.int (own_bit cb)), .val (.int qv), .val (.int jv), .val (.int nv)] [(.int nv)]))
              refine own_via (fun t k => XS.istore X13.here hx rfl (hb hby d1_192) rfl (l' := #[.val (.ref a0), .val (.int p1), .val (.int p2), .val (.int p3), .val (.int p4), .val (.int mn), .val (.int mx), .val (.int tv), .val (.ref b8), .val (.int (Int32.ofNat ev)), .val (.int (own_bit cb)), .val (.int nv), .val (.int jv), .val (.int nv)]) rfl k) ?_
              show OwnEnds p.tables e below _ (T13.setTop (mkF m 194 #[.val (.ref a0), .val (.int p1), .val (.int p2), .val (.int p3), .val (.int p4), .val (.int mn), .val (.int mx), .val (.int tv), .val (.ref b8), .val (.int (Int32.ofNat ev)), .val (.int (own_bit cb)), .val (.int nv), .val (.int jv), .val (.int nv)] []))
              refine own_via (fun t k => XS.iinc X13.here hx rfl (hb hby d1_194) rfl (l' := #[.val (.ref a0), .val (.int p1), .val (.int p2), .val (.int p3), .val (.int p4), .val (.int mn), .val (.int mx), .val (.int tv), .val (.ref b8), .val (.int (Int32.ofNat ev)), .val (.int (own_bit cb)), .val (.int nv), .val (.int (jv + (1 : Int32))), .val (.int nv)]) rfl k) ?_
              show OwnEnds p.tables e below _ (T13.setTop (mkF m 197 #[.val (.ref a0), .val (.int p1), .val (.int p2), .val (.int p3), .val (.int p4), .val (.int mn), .val (.int mx), .val (.int tv), .val (.ref b8), .val (.int (Int32.ofNat ev)), .val (.int (own_bit cb)), .val (.int nv), .val (.int (jv + (1 : Int32))), .val (.int nv)] []))
              refine own_via (fun t k => XS.goto X13.here hx rfl (pc0 := 197) (pc' := 166) rfl (hb hby d1_197) (by decide) (by decide) k) ?_
              show OwnEnds p.tables e below _ (T13.setTop (mkF m 166 #[.val (.ref a0), .val (.int p1), .val (.int p2), .val (.int p3), .val (.int p4), .val (.int mn), .val (.int mx), .val (.int tv), .val (.ref b8), .val (.int (Int32.ofNat ev)), .val (.int (own_bit cb)), .val (.int nv), .val (.int (jv + (1 : Int32))), .val (.int nv)] []))
              rw [own_iv_set] at A_b8
              exact ih (jN + 1) (xs3.set jN (nv - qv)) nv (jv + 1) _ _ _ _ (by omega) (own_inc hjv (by omega)) (by rw [List.length_set]; exact hx3) (by rw [← hl3]; simp only [own_l3, ← h_nv]) (Or.inr ⟨_, rfl, rfl⟩) X13 e13 N13 Zs_W13 K0 A_a0 A_b8 E_b8
            | zero =>
              intro jN xs3 qv jv sl3 TL hL locsL hjn hjv hx3 hl3 one_sl3 XL eL NL ZL K0 A_a0 A_b8 E_b8
              have hend : Int32.ofNat ev < jv := by rw [Int32.lt_iff_toInt_lt, hevo, hjv]; omega
              have hYY : (own_l3 (ev + 1) (xs.set ev p4) 0 p3) = xs3 := hl3.symm
              show OwnEnds p.tables e below _ (TL.setTop (mkF m 166 #[.val (.ref a0), .val (.int p1), .val (.int p2), .val (.int p3), .val (.int p4), .val (.int mn), .val (.int mx), .val (.int tv), .val (.ref b8), .val (.int (Int32.ofNat ev)), .val (.int (own_bit cb)), .val (.int qv), .val (.int jv), sl3] []))
              refine own_via (fun t k => XS.iload XL.here hx rfl (hb hby d1_166) rfl k) ?_
              show OwnEnds p.tables e below _ (TL.setTop (mkF m 168 #[.val (.ref a0), .val (.int p1), .val (.int p2), .val (.int p3), .val (.int p4), .val (.int mn), .val (.int mx), .val (.int tv), .val (.ref b8), .val (.int (Int32.ofNat ev)), .val (.int (own_bit cb)), .val (.int qv), .val (.int jv), sl3] [(.int jv)]))
              refine own_via (fun t k => XS.iload XL.here hx rfl (hb hby d1_168) rfl k) ?_
              show OwnEnds p.tables e below _ (TL.setTop (mkF m 170 #[.val (.ref a0), .val (.int p1), .val (.int p2), .val (.int p3), .val (.int p4), .val (.int mn), .val (.int mx), .val (.int tv), .val (.ref b8), .val (.int (Int32.ofNat ev)), .val (.int (own_bit cb)), .val (.int qv), .val (.int jv), sl3] [(.int (Int32.ofNat ev)), (.int jv)]))
              have hc170_14 : (Int32.ofNat ev) < jv := hend
              refine own_via (fun t k => XS.icmpYes XL.here hx rfl (pc0 := 170) (pc' := 200) rfl (hb hby d1_170) rfl (tlt hc170_14).2.2.1 (by decide) (by decide) k) ?_
              show OwnEnds p.tables e below _ (TL.setTop (mkF m 200 #[.val (.ref a0), .val (.int p1), .val (.int p2), .val (.int p3), .val (.int p4), .val (.int mn), .val (.int mx), .val (.int tv), .val (.ref b8), .val (.int (Int32.ofNat ev)), .val (.int (own_bit cb)), .val (.int qv), .val (.int jv), sl3] []))
              refine own_via (fun t k => XS.iload XL.here hx rfl (hb hby d1_200) rfl k) ?_
              show OwnEnds p.tables e below _ (TL.setTop (mkF m 202 #[.val (.ref a0), .val (.int p1), .val (.int p2), .val (.int p3), .val (.int p4), .val (.int mn), .val (.int mx), .val (.int tv), .val (.ref b8), .val (.int (Int32.ofNat ev)), .val (.int (own_bit cb)), .val (.int qv), .val (.int jv), sl3] [(.int (Int32.ofNat ev))]))
              refine own_via (fun t k => XS.iconst XL.here hx rfl (hb hby d1_202) k) ?_
              show OwnEnds p.tables e below _ (TL.setTop (mkF m 203 #[.val (.ref a0), .val (.int p1), .val (.int p2), .val (.int p3), .val (.int p4), .val (.int mn), .val (.int mx), .val (.int tv), .val (.ref b8), .val (.int (Int32.ofNat ev)), .val (.int (own_bit cb)), .val (.int qv), .val (.int jv), sl3] [(.int (1 : Int32)), (.int (Int32.ofNat ev))]))
              refine own_via (fun t k => XS.iadd XL.here hx rfl (hb hby d1_203) rfl k) ?_
              show OwnEnds p.tables e below _ (TL.setTop (mkF m 204 #[.val (.ref a0), .val (.int p1), .val (.int p2), .val (.int p3), .val (.int p4), .val (.int mn), .val (.int mx), .val (.int tv), .val (.ref b8), .val (.int (Int32.ofNat ev)), .val (.int (own_bit cb)), .val (.int qv), .val (.int jv), sl3] [(.int ((Int32.ofNat ev) + (1 : Int32)))]))
              refine own_via (fun t k => XS.istore XL.here hx rfl (hb hby d1_204) rfl (l' := #[.val (.ref a0), .val (.int p1), .val (.int p2), .val (.int p3), .val (.int p4), .val (.int mn), .val (.int mx), .val (.int tv), .val (.ref b8), .val (.int (Int32.ofNat ev)), .val (.int (own_bit cb)), .val (.int qv), .val (.int ((Int32.ofNat ev) + (1 : Int32))), sl3]) rfl k) ?_
              show OwnEnds p.tables e below _ (TL.setTop (mkF m 206 #[.val (.ref a0), .val (.int p1), .val (.int p2), .val (.int p3), .val (.int p4), .val (.int mn), .val (.int mx), .val (.int tv), .val (.ref b8), .val (.int (Int32.ofNat ev)), .val (.int (own_bit cb)), .val (.int qv), .val (.int ((Int32.ofNat ev) + (1 : Int32))), sl3] []))
              cases cb with
              | true =>
                show OwnEnds p.tables e below _ (TL.setTop (mkF m 206 #[.val (.ref a0), .val (.int p1), .val (.int p2), .val (.int p3), .val (.int p4), .val (.int mn), .val (.int mx), .val (.int tv), .val (.ref b8), .val (.int (Int32.ofNat ev)), .val (.int (own_bit true)), .val (.int qv), .val (.int ((Int32.ofNat ev) + (1 : Int32))), sl3] []))
                refine own_via (fun t k => XS.iload XL.here hx rfl (hb hby d1_206) rfl k) ?_
                show OwnEnds p.tables e below _ (TL.setTop (mkF m 208 #[.val (.ref a0), .val (.int p1), .val (.int p2), .val (.int p3), .val (.int p4), .val (.int mn), .val (.int mx), .val (.int tv), .val (.ref b8), .val (.int (Int32.ofNat ev)), .val (.int (own_bit true)), .val (.int qv), .val (.int ((Int32.ofNat ev) + (1 : Int32))), sl3] [(.int (own_bit true))]))
                refine own_via (fun t k => XS.iconst XL.here hx rfl (hb hby d1_208) k) ?_
                show OwnEnds p.tables e below _ (TL.setTop (mkF m 209 #[.val (.ref a0), .val (.int p1), .val (.int p2), .val (.int p3), .val (.int p4), .val (.int mn), .val (.int mx), .val (.int tv), .val (.ref b8), .val (.int (Int32.ofNat ev)), .val (.int (own_bit true)), .val (.int qv), .val (.int ((Int32.ofNat ev) + (1 : Int32))), sl3] [(.int (1 : Int32)), (.int (own_bit true))]))
                have hc209_15 : (own_bit true) = (1 : Int32) := rfl
                refine own_via (fun t k => XS.icmpNo XL.here hx rfl (hb hby d1_209) rfl (teq hc209_15).2 k) ?_
                show OwnEnds p.tables e below _ (TL.setTop (mkF m 212 #[.val (.ref a0), .val (.int p1), .val (.int p2), .val (.int p3), .val (.int p4), .val (.int mn), .val (.int mx), .val (.int tv), .val (.ref b8), .val (.int (Int32.ofNat ev)), .val (.int (own_bit true)), .val (.int qv), .val (.int ((Int32.ofNat ev) + (1 : Int32))), sl3] []))
                refine own_via (fun t k => XS.aload XL.here hx rfl (hb hby d1_212) rfl rfl k) ?_
                show OwnEnds p.tables e below _ (TL.setTop (mkF m 214 #[.val (.ref a0), .val (.int p1), .val (.int p2), .val (.int p3), .val (.int p4), .val (.int mn), .val (.int mx), .val (.int tv), .val (.ref b8), .val (.int (Int32.ofNat ev)), .val (.int (own_bit true)), .val (.int qv), .val (.int ((Int32.ofNat ev) + (1 : Int32))), sl3] [(.ref b8)]))
                refine own_via (fun t k => XS.iload XL.here hx rfl (hb hby d1_214) rfl k) ?_
                show OwnEnds p.tables e below _ (TL.setTop (mkF m 216 #[.val (.ref a0), .val (.int p1), .val (.int p2), .val (.int p3), .val (.int p4), .val (.int mn), .val (.int mx), .val (.int tv), .val (.ref b8), .val (.int (Int32.ofNat ev)), .val (.int (own_bit true)), .val (.int qv), .val (.int ((Int32.ofNat ev) + (1 : Int32))), sl3] [(.int ((Int32.ofNat ev) + (1 : Int32))), (.ref b8)]))
                refine own_via (fun t k => XS.iinc XL.here hx rfl (hb hby d1_216) rfl (l' := #[.val (.ref a0), .val (.int p1), .val (.int p2), .val (.int p3), .val (.int p4), .val (.int mn), .val (.int mx), .val (.int tv), .val (.ref b8), .val (.int (Int32.ofNat ev)), .val (.int (own_bit true)), .val (.int qv), .val (.int (((Int32.ofNat ev) + (1 : Int32)) + (1 : Int32))), sl3]) rfl k) ?_
                show OwnEnds p.tables e below _ (TL.setTop (mkF m 219 #[.val (.ref a0), .val (.int p1), .val (.int p2), .val (.int p3), .val (.int p4), .val (.int mn), .val (.int mx), .val (.int tv), .val (.ref b8), .val (.int (Int32.ofNat ev)), .val (.int (own_bit true)), .val (.int qv), .val (.int (((Int32.ofNat ev) + (1 : Int32)) + (1 : Int32))), sl3] [(.int ((Int32.ofNat ev) + (1 : Int32))), (.ref b8)]))
                refine own_via (fun t k => XS.iconst XL.here hx rfl (hb hby d1_219) k) ?_
                show OwnEnds p.tables e below _ (TL.setTop (mkF m 220 #[.val (.ref a0), .val (.int p1), .val (.int p2), .val (.int p3), .val (.int p4), .val (.int mn), .val (.int mx), .val (.int tv), .val (.ref b8), .val (.int (Int32.ofNat ev)), .val (.int (own_bit true)), .val (.int qv), .val (.int (((Int32.ofNat ev) + (1 : Int32)) + (1 : Int32))), sl3] [(.int (0 : Int32)), (.int ((Int32.ofNat ev) + (1 : Int32))), (.ref b8)]))
                obtain ⟨T16, h16, X16, e16, W16, AA16, st16⟩ := own_stI XL hx hZ eL A_b8 (ev + 1) (own_ofN1 (by omega)) (by rw [own_iv_len]; omega) (g := (mkF m 220 #[.val (.ref a0), .val (.int p1), .val (.int p2), .val (.int p3), .val (.int p4), .val (.int mn), .val (.int mx), .val (.int tv), .val (.ref b8), .val (.int (Int32.ofNat ev)), .val (.int (own_bit true)), .val (.int qv), .val (.int (((Int32.ofNat ev) + (1 : Int32)) + (1 : Int32))), sl3] [(.int (0 : Int32)), (.int ((Int32.ofNat ev) + (1 : Int32))), (.ref b8)])) rfl rfl (hb hby d1_220)
                replace A_a0 := A_a0.other W16 ne_a0_b8
                replace E_b8 := E_b8.wr W16
                replace K0 := K0.wr W16 (Or.inr sz_b8)
                have Zs_W16 : n0 ≤ _ := Nat.le_trans ZL (Keep.of_wr W16).1
                replace A_b8 : AL Z h16 b8 .int ((own_iv xs3).set (ev + 1) (.int (0 : Int32))) := AA16
                have N16 := Fr.snoc X16 NL g_b8
                refine own_via st16 ?_
                show OwnEnds p.tables e below _ (T16.setTop (mkF m 221 #[.val (.ref a0), .val (.int p1), .val (.int p2), .val (.int p3), .val (.int p4), .val (.int mn), .val (.int mx), .val (.int tv), .val (.ref b8), .val (.int (Int32.ofNat ev)), .val (.int (own_bit true)), .val (.int qv), .val (.int (((Int32.ofNat ev) + (1 : Int32)) + (1 : Int32))), sl3] []))
                rw [own_iv_set] at A_b8
                refine own_via (fun t k => XS.aload X16.here hx rfl (hb hby d1_221) rfl rfl k) ?_
                show OwnEnds p.tables e below _ (T16.setTop (mkF m 223 #[.val (.ref a0), .val (.int p1), .val (.int p2), .val (.int p3), .val (.int p4), .val (.int mn), .val (.int mx), .val (.int tv), .val (.ref b8), .val (.int (Int32.ofNat ev)), .val (.int (own_bit true)), .val (.int qv), .val (.int (((Int32.ofNat ev) + (1 : Int32)) + (1 : Int32))), sl3] [(.ref b8)]))
                refine own_via (fun t k => XS.iload X16.here hx rfl (hb hby d1_223) rfl k) ?_
                show OwnEnds p.tables e below _ (T16.setTop (mkF m 225 #[.val (.ref a0), .val (.int p1), .val (.int p2), .val (.int p3), .val (.int p4), .val (.int mn), .val (.int mx), .val (.int tv), .val (.ref b8), .val (.int (Int32.ofNat ev)), .val (.int (own_bit true)), .val (.int qv), .val (.int (((Int32.ofNat ev) + (1 : Int32)) + (1 : Int32))), sl3] [(.int (((Int32.ofNat ev) + (1 : Int32)) + (1 : Int32))), (.ref b8)]))
                rw [own_of2]
                show OwnEnds p.tables e below _ (T16.setTop (mkF m 225 #[.val (.ref a0), .val (.int p1), .val (.int p2), .val (.int p3), .val (.int p4), .val (.int mn), .val (.int mx), .val (.int tv), .val (.ref b8), .val (.int (Int32.ofNat ev)), .val (.int (own_bit true)), .val (.int qv), .val (.int (Int32.ofNat (ev + 2))), sl3] [(.int (Int32.ofNat (ev + 2))), (.ref b8)]))
                obtain ⟨T17, h17, X17, e17, E17, A17, st17⟩ := own_copyI hw hZ X16 hx hown (hw _ (List.mem_of_getElem? (i := 15) rfl)) (hw _ (List.mem_of_getElem? (i := 16) rfl)) e16 A_b8 E_b8 (n := ev + 2) (by first | (simp only [List.length_set]; omega) | omega) (by omega) (g := (mkF m 225 #[.val (.ref a0), .val (.int p1), .val (.int p2), .val (.int p3), .val (.int p4), .val (.int mn), .val (.int mx), .val (.int tv), .val (.ref b8), .val (.int (Int32.ofNat ev)), .val (.int (own_bit true)), .val (.int qv), .val (.int (Int32.ofNat (ev + 2))), sl3] [(.int (Int32.ofNat (ev + 2))), (.ref b8)])) rfl (by rw [hml]; rfl) (rest := []) rfl (W := 0) (by show 2 * 0 + _ ≤ _; exact Nat.le_of_eq rfl) (hb hby d1_225) (by decide) (by decide) (by decide) (by decide)
                obtain ⟨b9, g17⟩ : ∃ z, z = h16.size := ⟨_, rfl⟩
                rw [← g17] at A17 st17
                have ne_a0_b9 : a0 ≠ b9 := Nat.ne_of_lt (Nat.lt_of_lt_of_le A_a0.lt (Nat.le_of_eq g17.symm))
                have ne_b8_b9 : b8 ≠ b9 := Nat.ne_of_lt (Nat.lt_of_lt_of_le A_b8.lt (Nat.le_of_eq g17.symm))
                have g_b9 : n0 ≤ b9 := Nat.le_trans Zs_W16 (Nat.le_of_eq g17.symm)
                have sz_b9 : h0.size ≤ b9 := Nat.le_trans K0.1 (Nat.le_of_eq g17.symm)
                have Zs_17 : n0 ≤ _ := Nat.le_trans Zs_W16 E17.1
                replace A_a0 := A_a0.ext E17
                replace A_b8 := A_b8.ext E17
                replace E_b8 := E_b8.ext E17
                replace K0 := K0.ext E17
                have A_b9 := A17
                refine own_of st17 ?_
                show OwnEnds p.tables e below _ (T17.setTop (mkF m 228 #[.val (.ref a0), .val (.int p1), .val (.int p2), .val (.int p3), .val (.int p4), .val (.int mn), .val (.int mx), .val (.int tv), .val (.ref b8), .val (.int (Int32.ofNat ev)), .val (.int (own_bit true)), .val (.int qv), .val (.int (Int32.ofNat (ev + 2))), sl3] [(.ref b9)]))
                have hfin : own_res ys k wd fN tN p3 p4 = (xs3.set (ev + 1) 0).take (ev + 2) := by
                  unfold own_res
                  rw [← htv, hRR]
                  simp only [own_fin, hYY, if_true]
                refine own_retA X17 hx Bd.returns rfl rfl hlk (hb hby d1_228) ?_ (by decide) (by decide)
                rw [e17]
                exact ⟨b9, rfl, N16, K0, sz_b9, hfin ▸ A_b9⟩
              | false =>
                show OwnEnds p.tables e below _ (TL.setTop (mkF m 206 #[.val (.ref a0), .val (.int p1), .val (.int p2), .val (.int p3), .val (.int p4), .val (.int mn), .val (.int mx), .val (.int tv), .val (.ref b8), .val (.int (Int32.ofNat ev)), .val (.int (own_bit false)), .val (.int qv), .val (.int ((Int32.ofNat ev) + (1 : Int32))), sl3] []))
                refine own_via (fun t k => XS.iload XL.here hx rfl (hb hby d1_206) rfl k) ?_
                show OwnEnds p.tables e below _ (TL.setTop (mkF m 208 #[.val (.ref a0), .val (.int p1), .val (.int p2), .val (.int p3), .val (.int p4), .val (.int mn), .val (.int mx), .val (.int tv), .val (.ref b8), .val (.int (Int32.ofNat ev)), .val (.int (own_bit false)), .val (.int qv), .val (.int ((Int32.ofNat ev) + (1 : Int32))), sl3] [(.int (own_bit false))]))
                refine own_via (fun t k => XS.iconst XL.here hx rfl (hb hby d1_208) k) ?_
                show OwnEnds p.tables e below _ (TL.setTop (mkF m 209 #[.val (.ref a0), .val (.int p1), .val (.int p2), .val (.int p3), .val (.int p4), .val (.int mn), .val (.int mx), .val (.int tv), .val (.ref b8), .val (.int (Int32.ofNat ev)), .val (.int (own_bit false)), .val (.int qv), .val (.int ((Int32.ofNat ev) + (1 : Int32))), sl3] [(.int (1 : Int32)), (.int (own_bit false))]))
                have hc209_18 : ¬ ((own_bit false) = (1 : Int32)) := by decide
                refine own_via (fun t k => XS.icmpYes XL.here hx rfl (pc0 := 209) (pc' := 221) rfl (hb hby d1_209) rfl (feq hc209_18).2 (by decide) (by decide) k) ?_
                show OwnEnds p.tables e below _ (TL.setTop (mkF m 221 #[.val (.ref a0), .val (.int p1), .val (.int p2), .val (.int p3), .val (.int p4), .val (.int mn), .val (.int mx), .val (.int tv), .val (.ref b8), .val (.int (Int32.ofNat ev)), .val (.int (own_bit false)), .val (.int qv), .val (.int ((Int32.ofNat ev) + (1 : Int32))), sl3] []))
                refine own_via (fun t k => XS.aload XL.here hx rfl (hb hby d1_221) rfl rfl k) ?_
                show OwnEnds p.tables e below _ (TL.setTop (mkF m 223 #[.val (.ref a0), .val (.int p1), .val (.int p2), .val (.int p3), .val (.int p4), .val (.int mn), .val (.int mx), .val (.int tv), .val (.ref b8), .val (.int (Int32.ofNat ev)), .val (.int (own_bit false)), .val (.int qv), .val (.int ((Int32.ofNat ev) + (1 : Int32))), sl3] [(.ref b8)]))
                refine own_via (fun t k => XS.iload XL.here hx rfl (hb hby d1_223) rfl k) ?_
                show OwnEnds p.tables e below _ (TL.setTop (mkF m 225 #[.val (.ref a0), .val (.int p1), .val (.int p2), .val (.int p3), .val (.int p4), .val (.int mn), .val (.int mx), .val (.int tv), .val (.ref b8), .val (.int (Int32.ofNat ev)), .val (.int (own_bit false)), .val (.int qv), .val (.int ((Int32.ofNat ev) + (1 : Int32))), sl3] [(.int ((Int32.ofNat ev) + (1 : Int32))), (.ref b8)]))
                rw [own_of1]
                show OwnEnds p.tables e below _ (TL.setTop (mkF m 225 #[.val (.ref a0), .val (.int p1), .val (.int p2), .val (.int p3), .val (.int p4), .val (.int mn), .val (.int mx), .val (.int tv), .val (.ref b8), .val (.int (Int32.ofNat ev)), .val (.int (own_bit false)), .val (.int qv), .val (.int (Int32.ofNat (ev + 1))), sl3] [(.int (Int32.ofNat (ev + 1))), (.ref b8)]))
                obtain ⟨T19, h19, X19, e19, E19, A19, st19⟩ := own_copyI hw hZ XL hx hown (hw _ (List.mem_of_getElem? (i := 15) rfl)) (hw _ (List.mem_of_getElem? (i := 16) rfl)) eL A_b8 E_b8 (n := ev + 1) (by first | (simp only [List.length_set]; omega) | omega) (by omega) (g := (mkF m 225 #[.val (.ref a0), .val (.int p1), .val (.int p2), .val (.int p3), .val (.int p4), .val (.int mn), .val (.int mx), .val (.int tv), .val (.ref b8), .val (.int (Int32.ofNat ev)), .val (.int (own_bit false)), .val (.int qv), .val (.int (Int32.ofNat (ev + 1))), sl3] [(.int (Int32.ofNat (ev + 1))), (.ref b8)])) rfl (by rw [hml]; rfl) (rest := []) rfl (W := 0) (by show 2 * 0 + _ ≤ _; exact Nat.le_of_eq rfl) (hb hby d1_225) (by decide) (by decide) (by decide) (by decide)
                obtain ⟨b9, g19⟩ : ∃ z, z = hL.size := ⟨_, rfl⟩
                rw [← g19] at A19 st19
                have ne_a0_b9 : a0 ≠ b9 := Nat.ne_of_lt (Nat.lt_of_lt_of_le A_a0.lt (Nat.le_of_eq g19.symm))
                have ne_b8_b9 : b8 ≠ b9 := Nat.ne_of_lt (Nat.lt_of_lt_of_le A_b8.lt (Nat.le_of_eq g19.symm))
                have g_b9 : n0 ≤ b9 := Nat.le_trans ZL (Nat.le_of_eq g19.symm)
                have sz_b9 : h0.size ≤ b9 := Nat.le_trans K0.1 (Nat.le_of_eq g19.symm)
                have Zs_19 : n0 ≤ _ := Nat.le_trans ZL E19.1
                replace A_a0 := A_a0.ext E19
                replace A_b8 := A_b8.ext E19
                replace E_b8 := E_b8.ext E19
                replace K0 := K0.ext E19
                have A_b9 := A19
                refine own_of st19 ?_
                show OwnEnds p.tables e below _ (T19.setTop (mkF m 228 #[.val (.ref a0), .val (.int p1), .val (.int p2), .val (.int p3), .val (.int p4), .val (.int mn), .val (.int mx), .val (.int tv), .val (.ref b8), .val (.int (Int32.ofNat ev)), .val (.int (own_bit false)), .val (.int qv), .val (.int (Int32.ofNat (ev + 1))), sl3] [(.ref b9)]))
                have hfin : own_res ys k wd fN tN p3 p4 = xs3.take (ev + 1) := by
                  unfold own_res
                  rw [← htv, hRR]
                  simp only [own_fin, hYY, Bool.false_eq_true, if_false]
                refine own_retA X19 hx Bd.returns rfl rfl hlk (hb hby d1_228) ?_ (by decide) (by decide)
                rw [e19]
                exact ⟨b9, rfl, NL, K0, sz_b9, hfin ▸ A_b9⟩
          exact loop3 (ev + 1) 0 _ p3 0 _ _ _ _ (by omega) rfl (by rw [List.length_set]; exact hxl) rfl (Or.inl rfl) X11 e11 N11 Zs_W11 K0 A_a0 A_b8 E_b8
      exact loop2 (tN - fN) fN 0 _ false p3 _ _ _ _ (by omega) (Nat.le_refl _) (by omega) hfN List.length_replicate rfl (Or.inl rfl) X7 e7 NL Zs_7 K0 A_a0 A_b8 E_b8
  exact loop wd k 255 0 p1 _ _ _ rfl hk rfl ⟨by decide, by decide⟩ (Or.inl rfl) X0 e0 N0
theorem d5_0 : decode method_3_code 0 = .ok (.iload_n 3, 1) := by decide +kernel
theorem d5_1 : decode method_3_code 1 = .ok (.ifCond .ne 4, 3) := by decide +kernel
theorem d5_4 : decode method_3_code 4 = .ok (.return_, 1) := by decide +kernel
theorem d5_5 : decode method_3_code 5 = .ok (.iload_n 2, 1) := by decide +kernel
theorem d5_6 : decode method_3_code 6 = .ok (.ifCond .eq 7, 3) := by decide +kernel
theorem d5_9 : decode method_3_code 9 = .ok (.iconst 1, 1) := by decide +kernel
theorem d5_10 : decode method_3_code 10 = .ok (.goto 4, 3) := by decide +kernel
theorem d5_13 : decode method_3_code 13 = .ok (.iconst 0, 1) := by decide +kernel
theorem d5_14 : decode method_3_code 14 = .ok (.istore 4, 2) := by decide +kernel
theorem d5_16 : decode method_3_code 16 = .ok (.iload 4, 2) := by decide +kernel
theorem d5_18 : decode method_3_code 18 = .ok (.aload_n 1, 1) := by decide +kernel
theorem d5_19 : decode method_3_code 19 = .ok (.iconst 1, 1) := by decide +kernel
theorem d5_20 : decode method_3_code 20 = .ok (.iaload, 1) := by decide +kernel
theorem d5_21 : decode method_3_code 21 = .ok (.if_icmp .eq 16, 3) := by decide +kernel
theorem d5_24 : decode method_3_code 24 = .ok (.aload_n 1, 1) := by decide +kernel
theorem d5_25 : decode method_3_code 25 = .ok (.iconst 0, 1) := by decide +kernel
theorem d5_26 : decode method_3_code 26 = .ok (.aload_n 1, 1) := by decide +kernel
theorem d5_27 : decode method_3_code 27 = .ok (.iconst 0, 1) := by decide +kernel
theorem d5_28 : decode method_3_code 28 = .ok (.iaload, 1) := by decide +kernel
theorem d5_29 : decode method_3_code 29 = .ok (.iconst 1, 1) := by decide +kernel
theorem d5_30 : decode method_3_code 30 = .ok (.iadd, 1) := by decide +kernel
theorem d5_31 : decode method_3_code 31 = .ok (.iastore, 1) := by decide +kernel
theorem d5_32 : decode method_3_code 32 = .ok (.aload_n 1, 1) := by decide +kernel
theorem d5_33 : decode method_3_code 33 = .ok (.iconst 1, 1) := by decide +kernel
theorem d5_34 : decode method_3_code 34 = .ok (.iload 4, 2) := by decide +kernel
theorem d5_36 : decode method_3_code 36 = .ok (.iastore, 1) := by decide +kernel
theorem d5_37 : decode method_3_code 37 = .ok (.aload_n 0, 1) := by decide +kernel
theorem d5_38 : decode method_3_code 38 = .ok (.aload_n 1, 1) := by decide +kernel
theorem d5_39 : decode method_3_code 39 = .ok (.iconst 0, 1) := by decide +kernel
theorem d5_40 : decode method_3_code 40 = .ok (.iaload, 1) := by decide +kernel
theorem d5_41 : decode method_3_code 41 = .ok (.aload_n 0, 1) := by decide +kernel
theorem d5_42 : decode method_3_code 42 = .ok (.aload_n 1, 1) := by decide +kernel
theorem d5_43 : decode method_3_code 43 = .ok (.iconst 0, 1) := by decide +kernel
theorem d5_44 : decode method_3_code 44 = .ok (.iaload, 1) := by decide +kernel
theorem d5_45 : decode method_3_code 45 = .ok (.iaload, 1) := by decide +kernel
theorem d5_46 : decode method_3_code 46 = .ok (.iconst 1, 1) := by decide +kernel
theorem d5_47 : decode method_3_code 47 = .ok (.iadd, 1) := by decide +kernel
theorem d5_48 : decode method_3_code 48 = .ok (.iastore, 1) := by decide +kernel
theorem d5_49 : decode method_3_code 49 = .ok (.return_, 1) := by decide +kernel
theorem pn_1 : plainName "com/example/shelfmark/shelfmark/ScanlineElementsPinLaw" = true := by first | (simp [plainName, overriddenIn]; done) | decide +kernel
theorem ef_5 (m : MethodId) (a0 : Addr) (a1 : Addr) : entryFrame m #[(.ref a0), (.ref a1), (.int (own_bit db)), (.int (own_bit ib))] 5 = mkF m 0 #[.val (.ref a0), .val (.ref a1), .val (.int (own_bit db)), .val (.int (own_bit ib)), .unset] [] := by first | (simp [entryFrame, mkF, argsToLocals, Value.category]; done) | rfl
def Q5 (Z : State) (a0 : Addr) (a1 : Addr) (ex : List Int32) (ev : Nat) (cb : Bool) (db : Bool) (ib : Bool) (h0 : Heap) (n0 : Nat) (v : Option Value) (h : Heap) (L : List Loc) : Prop := v = none ∧ Fr n0 L ∧ Keep h0 h [a0, a1] ∧ AL Z h a0 .int (own_iv (own_push (ex, ev, cb) db ib).1) ∧ AL Z h a1 .int [.int (Int32.ofNat (own_push (ex, ev, cb) db ib).2.1), .int (own_bit (own_push (ex, ev, cb) db ib).2.2)]
set_option maxRecDepth 65536 in
set_option maxHeartbeats 40000000 in
theorem rm5 (l : Launch) (Z : State) (aw : Array Value) (hw : ∀ d ∈ tables_1, d.before aw Z = true) (ws : List Jvm.Cond) (a0 : Addr) (a1 : Addr) (ex : List Int32) (ev : Nat) (cb : Bool) (db : Bool) (ib : Bool) (h0 : Heap) (n0 : Nat) (Z0 : n0 ≤ h0.size) (A_a0 : AL Z h0 a0 .int (own_iv ex)) (A_a1 : AL Z h0 a1 .int [(.int (Int32.ofNat ev)), (.int (own_bit cb))]) (hex : ex.length = 6) (hev : ev + 1 < 6) (ne_0 : a0 ≠ a1) (g_a0 : n0 ≤ a0) (g_a1 : n0 ≤ a1) :
    MetFree l (⟨"com/example/shelfmark/shelfmark/ScanlineElementsPinLaw", "push", "([I[IZZ)V"⟩ : MethodName) (head1 (Jvm.Cond.code (⟨"com/example/shelfmark/shelfmark/ScanlineElementsPinLaw", "push", "([I[IZZ)V"⟩ : MethodName) method_3_code 5 none :: ws) ({ frames := 0, cells := 0, slots := 0, locals := 0 } : Room)) (fun a U => a = #[(.ref a0), (.ref a1), (.int (own_bit db)), (.int (own_bit ib))] ∧ Z.Warmed39 U.vm ∧ U.heap = h0) (fun _ _ _ _ _ => True) (fun _ U o U' => ∃ v L, o = .returned v ∧ Q5 Z a0 a1 ex ev cb db ib h0 n0 v U'.heap L ∧ FrameEnd U o U' L ({ frames := 0, cells := 0, slots := 0, locals := 0 } : Room).cells ({ frames := 0, cells := 0, slots := 0, locals := 0 } : Room).slots) := by
  refine MetFree.of_bodySF (plainFor_of_name pn_1) hisR ?_
  intro p e s m args below meth c s₁ Bd hml0 hP hK
  obtain ⟨rfl, hZ, hh⟩ := hP
  have hx := Bd.exec
  have hby := Bd.bytes
  have hml : c.maxLocals = 5 := hml0
  have hown : s.vm.findClass "com/example/shelfmark/shelfmark/ScanlineElementsPinLaw" = some m.cls := findClass_of_methodNamed Bd.named
  have hnm := (name_of_methodNamed Bd.named Bd.method).1
  have hlk : meth.locks = false := Bd.notSynchronized
  have X0 : Stand p l e ({ frames := 0, cells := 0, slots := 0, locals := 0 } : Room) s m #[(.ref a0), (.ref a1), (.int (own_bit db)), (.int (own_bit ib))] below meth c s₁ [] 0 0 := Stand.of_body Bd
  have e0 : s₁.heap = h0 := by rw [← hh, Bd.state]; rfl
  have N0 := Fr.nil n0
  show OwnEnds p.tables e below (OwnQ s ({ frames := 0, cells := 0, slots := 0, locals := 0 } : Room).cells ({ frames := 0, cells := 0, slots := 0, locals := 0 } : Room).slots (Q5 Z a0 a1 ex ev cb db ib h0 n0)) (s₁.setTop (entryFrame m #[(.ref a0), (.ref a1), (.int (own_bit db)), (.int (own_bit ib))] 5))
  refine own_via (fun t k => castTop (ef_5 m a0 a1) k) ?_
  show OwnEnds p.tables e below _ (s₁.setTop (mkF m 0 #[.val (.ref a0), .val (.ref a1), .val (.int (own_bit db)), .val (.int (own_bit ib)), .unset] []))
  have K0 : Keep h0 h0 [a0, a1] := Keep.refl _ _
  cases ib <;> cases db <;> cases cb
  · skip
    have A_a1 : AL Z h0 a1 .int [(.int (Int32.ofNat ev)), (.int (0 : Int32))] := A_a1
    show OwnEnds p.tables e below _ (s₁.setTop (mkF m 0 #[.val (.ref a0), .val (.ref a1), .val (.int (0 : Int32)), .val (.int (0 : Int32)), .unset] []))
    refine own_via (fun t k => XS.iloadN X0.here hx rfl (hb hby d5_0) rfl k) ?_
    show OwnEnds p.tables e below _ (s₁.setTop (mkF m 1 #[.val (.ref a0), .val (.ref a1), .val (.int (0 : Int32)), .val (.int (0 : Int32)), .unset] [(.int (0 : Int32))]))
    have hc1_1 : (0 : Int32) = (0 : Int32) := by decide
    refine own_via (fun t k => XS.ifNo X0.here hx rfl (hb hby d5_1) rfl ((if0 _ _).trans (teq hc1_1).2) k) ?_
    show OwnEnds p.tables e below _ (s₁.setTop (mkF m 4 #[.val (.ref a0), .val (.ref a1), .val (.int (0 : Int32)), .val (.int (0 : Int32)), .unset] []))
    refine own_retV X0 hx Bd.returns hlk (hb hby d5_4) ?_ (by decide) (by decide)
    rw [e0]
    exact ⟨rfl, N0, K0, A_a0, A_a1⟩
  · skip
    have A_a1 : AL Z h0 a1 .int [(.int (Int32.ofNat ev)), (.int (1 : Int32))] := A_a1
    show OwnEnds p.tables e below _ (s₁.setTop (mkF m 0 #[.val (.ref a0), .val (.ref a1), .val (.int (0 : Int32)), .val (.int (0 : Int32)), .unset] []))
    refine own_via (fun t k => XS.iloadN X0.here hx rfl (hb hby d5_0) rfl k) ?_
    show OwnEnds p.tables e below _ (s₁.setTop (mkF m 1 #[.val (.ref a0), .val (.ref a1), .val (.int (0 : Int32)), .val (.int (0 : Int32)), .unset] [(.int (0 : Int32))]))
    have hc1_2 : (0 : Int32) = (0 : Int32) := by decide
    refine own_via (fun t k => XS.ifNo X0.here hx rfl (hb hby d5_1) rfl ((if0 _ _).trans (teq hc1_2).2) k) ?_
    show OwnEnds p.tables e below _ (s₁.setTop (mkF m 4 #[.val (.ref a0), .val (.ref a1), .val (.int (0 : Int32)), .val (.int (0 : Int32)), .unset] []))
    refine own_retV X0 hx Bd.returns hlk (hb hby d5_4) ?_ (by decide) (by decide)
    rw [e0]
    exact ⟨rfl, N0, K0, A_a0, A_a1⟩
  · skip
    have A_a1 : AL Z h0 a1 .int [(.int (Int32.ofNat ev)), (.int (0 : Int32))] := A_a1
    show OwnEnds p.tables e below _ (s₁.setTop (mkF m 0 #[.val (.ref a0), .val (.ref a1), .val (.int (1 : Int32)), .val (.int (0 : Int32)), .unset] []))
    refine own_via (fun t k => XS.iloadN X0.here hx rfl (hb hby d5_0) rfl k) ?_
    show OwnEnds p.tables e below _ (s₁.setTop (mkF m 1 #[.val (.ref a0), .val (.ref a1), .val (.int (1 : Int32)), .val (.int (0 : Int32)), .unset] [(.int (0 : Int32))]))
    have hc1_3 : (0 : Int32) = (0 : Int32) := by decide
    refine own_via (fun t k => XS.ifNo X0.here hx rfl (hb hby d5_1) rfl ((if0 _ _).trans (teq hc1_3).2) k) ?_
    show OwnEnds p.tables e below _ (s₁.setTop (mkF m 4 #[.val (.ref a0), .val (.ref a1), .val (.int (1 : Int32)), .val (.int (0 : Int32)), .unset] []))
    refine own_retV X0 hx Bd.returns hlk (hb hby d5_4) ?_ (by decide) (by decide)
    rw [e0]
    exact ⟨rfl, N0, K0, A_a0, A_a1⟩
  · skip
    have A_a1 : AL Z h0 a1 .int [(.int (Int32.ofNat ev)), (.int (1 : Int32))] := A_a1
    show OwnEnds p.tables e below _ (s₁.setTop (mkF m 0 #[.val (.ref a0), .val (.ref a1), .val (.int (1 : Int32)), .val (.int (0 : Int32)), .unset] []))
    refine own_via (fun t k => XS.iloadN X0.here hx rfl (hb hby d5_0) rfl k) ?_
    show OwnEnds p.tables e below _ (s₁.setTop (mkF m 1 #[.val (.ref a0), .val (.ref a1), .val (.int (1 : Int32)), .val (.int (0 : Int32)), .unset] [(.int (0 : Int32))]))
    have hc1_4 : (0 : Int32) = (0 : Int32) := by decide
    refine own_via (fun t k => XS.ifNo X0.here hx rfl (hb hby d5_1) rfl ((if0 _ _).trans (teq hc1_4).2) k) ?_
    show OwnEnds p.tables e below _ (s₁.setTop (mkF m 4 #[.val (.ref a0), .val (.ref a1), .val (.int (1 : Int32)), .val (.int (0 : Int32)), .unset] []))
    refine own_retV X0 hx Bd.returns hlk (hb hby d5_4) ?_ (by decide) (by decide)
    rw [e0]
    exact ⟨rfl, N0, K0, A_a0, A_a1⟩
  · skip
    have A_a1 : AL Z h0 a1 .int [(.int (Int32.ofNat ev)), (.int (0 : Int32))] := A_a1
    show OwnEnds p.tables e below _ (s₁.setTop (mkF m 0 #[.val (.ref a0), .val (.ref a1), .val (.int (0 : Int32)), .val (.int (1 : Int32)), .unset] []))
    refine own_via (fun t k => XS.iloadN X0.here hx rfl (hb hby d5_0) rfl k) ?_
    show OwnEnds p.tables e below _ (s₁.setTop (mkF m 1 #[.val (.ref a0), .val (.ref a1), .val (.int (0 : Int32)), .val (.int (1 : Int32)), .unset] [(.int (1 : Int32))]))
    have hc1_5 : ¬ ((1 : Int32) = (0 : Int32)) := by decide
    refine own_via (fun t k => XS.ifYes X0.here hx rfl (pc0 := 1) (pc' := 5) rfl (hb hby d5_1) rfl ((if0 _ _).trans (feq hc1_5).2) (by decide) (by decide) k) ?_
    show OwnEnds p.tables e below _ (s₁.setTop (mkF m 5 #[.val (.ref a0), .val (.ref a1), .val (.int (0 : Int32)), .val (.int (1 : Int32)), .unset] []))
    refine own_via (fun t k => XS.iloadN X0.here hx rfl (hb hby d5_5) rfl k) ?_
    show OwnEnds p.tables e below _ (s₁.setTop (mkF m 6 #[.val (.ref a0), .val (.ref a1), .val (.int (0 : Int32)), .val (.int (1 : Int32)), .unset] [(.int (0 : Int32))]))
    have hc6_6 : (0 : Int32) = (0 : Int32) := by decide
    refine own_via (fun t k => XS.ifYes X0.here hx rfl (pc0 := 6) (pc' := 13) rfl (hb hby d5_6) rfl ((if0 _ _).trans (teq hc6_6).1) (by decide) (by decide) k) ?_
    show OwnEnds p.tables e below _ (s₁.setTop (mkF m 13 #[.val (.ref a0), .val (.ref a1), .val (.int (0 : Int32)), .val (.int (1 : Int32)), .unset] []))
    refine own_via (fun t k => XS.iconst X0.here hx rfl (hb hby d5_13) k) ?_
    show OwnEnds p.tables e below _ (s₁.setTop (mkF m 14 #[.val (.ref a0), .val (.ref a1), .val (.int (0 : Int32)), .val (.int (1 : Int32)), .unset] [(.int (0 : Int32))]))
    refine own_via (fun t k => XS.istore X0.here hx rfl (hb hby d5_14) rfl (l' := #[.val (.ref a0), .val (.ref a1), .val (.int (0 : Int32)), .val (.int (1 : Int32)), .val (.int (0 : Int32))]) rfl k) ?_
    show OwnEnds p.tables e below _ (s₁.setTop (mkF m 16 #[.val (.ref a0), .val (.ref a1), .val (.int (0 : Int32)), .val (.int (1 : Int32)), .val (.int (0 : Int32))] []))
    refine own_via (fun t k => XS.iload X0.here hx rfl (hb hby d5_16) rfl k) ?_
    show OwnEnds p.tables e below _ (s₁.setTop (mkF m 18 #[.val (.ref a0), .val (.ref a1), .val (.int (0 : Int32)), .val (.int (1 : Int32)), .val (.int (0 : Int32))] [(.int (0 : Int32))]))
    refine own_via (fun t k => XS.aloadN X0.here hx rfl (hb hby d5_18) rfl rfl k) ?_
    show OwnEnds p.tables e below _ (s₁.setTop (mkF m 19 #[.val (.ref a0), .val (.ref a1), .val (.int (0 : Int32)), .val (.int (1 : Int32)), .val (.int (0 : Int32))] [(.ref a1), (.int (0 : Int32))]))
    refine own_via (fun t k => XS.iconst X0.here hx rfl (hb hby d5_19) k) ?_
    show OwnEnds p.tables e below _ (s₁.setTop (mkF m 20 #[.val (.ref a0), .val (.ref a1), .val (.int (0 : Int32)), .val (.int (1 : Int32)), .val (.int (0 : Int32))] [(.int (1 : Int32)), (.ref a1), (.int (0 : Int32))]))
    refine own_via (own_ldI X0 hx hZ e0 A_a1 (v := (.int (0 : Int32))) 1 rfl rfl (g := (mkF m 20 #[.val (.ref a0), .val (.ref a1), .val (.int (0 : Int32)), .val (.int (1 : Int32)), .val (.int (0 : Int32))] [(.int (1 : Int32)), (.ref a1), (.int (0 : Int32))])) rfl rfl (hb hby d5_20)) ?_
    show OwnEnds p.tables e below _ (s₁.setTop (mkF m 21 #[.val (.ref a0), .val (.ref a1), .val (.int (0 : Int32)), .val (.int (1 : Int32)), .val (.int (0 : Int32))] [(.int (0 : Int32)), (.int (0 : Int32))]))
    have hc21_7 : (0 : Int32) = (0 : Int32) := by decide
    refine own_via (fun t k => XS.icmpYes X0.here hx rfl (pc0 := 21) (pc' := 37) rfl (hb hby d5_21) rfl (teq hc21_7).1 (by decide) (by decide) k) ?_
    show OwnEnds p.tables e below _ (s₁.setTop (mkF m 37 #[.val (.ref a0), .val (.ref a1), .val (.int (0 : Int32)), .val (.int (1 : Int32)), .val (.int (0 : Int32))] []))
    refine own_via (fun t k => XS.aloadN X0.here hx rfl (hb hby d5_37) rfl rfl k) ?_
    show OwnEnds p.tables e below _ (s₁.setTop (mkF m 38 #[.val (.ref a0), .val (.ref a1), .val (.int (0 : Int32)), .val (.int (1 : Int32)), .val (.int (0 : Int32))] [(.ref a0)]))
    refine own_via (fun t k => XS.aloadN X0.here hx rfl (hb hby d5_38) rfl rfl k) ?_
    show OwnEnds p.tables e below _ (s₁.setTop (mkF m 39 #[.val (.ref a0), .val (.ref a1), .val (.int (0 : Int32)), .val (.int (1 : Int32)), .val (.int (0 : Int32))] [(.ref a1), (.ref a0)]))
    refine own_via (fun t k => XS.iconst X0.here hx rfl (hb hby d5_39) k) ?_
    show OwnEnds p.tables e below _ (s₁.setTop (mkF m 40 #[.val (.ref a0), .val (.ref a1), .val (.int (0 : Int32)), .val (.int (1 : Int32)), .val (.int (0 : Int32))] [(.int (0 : Int32)), (.ref a1), (.ref a0)]))
    refine own_via (own_ldI X0 hx hZ e0 A_a1 (v := (.int (Int32.ofNat ev))) 0 rfl rfl (g := (mkF m 40 #[.val (.ref a0), .val (.ref a1), .val (.int (0 : Int32)), .val (.int (1 : Int32)), .val (.int (0 : Int32))] [(.int (0 : Int32)), (.ref a1), (.ref a0)])) rfl rfl (hb hby d5_40)) ?_
    show OwnEnds p.tables e below _ (s₁.setTop (mkF m 41 #[.val (.ref a0), .val (.ref a1), .val (.int (0 : Int32)), .val (.int (1 : Int32)), .val (.int (0 : Int32))] [(.int (Int32.ofNat ev)), (.ref a0)]))
    refine own_via (fun t k => XS.aloadN X0.here hx rfl (hb hby d5_41) rfl rfl k) ?_
    show OwnEnds p.tables e below _ (s₁.setTop (mkF m 42 #[.val (.ref a0), .val (.ref a1), .val (.int (0 : Int32)), .val (.int (1 : Int32)), .val (.int (0 : Int32))] [(.ref a0), (.int (Int32.ofNat ev)), (.ref a0)]))
    refine own_via (fun t k => XS.aloadN X0.here hx rfl (hb hby d5_42) rfl rfl k) ?_
    show OwnEnds p.tables e below _ (s₁.setTop (mkF m 43 #[.val (.ref a0), .val (.ref a1), .val (.int (0 : Int32)), .val (.int (1 : Int32)), .val (.int (0 : Int32))] [(.ref a1), (.ref a0), (.int (Int32.ofNat ev)), (.ref a0)]))
    refine own_via (fun t k => XS.iconst X0.here hx rfl (hb hby d5_43) k) ?_
    show OwnEnds p.tables e below _ (s₁.setTop (mkF m 44 #[.val (.ref a0), .val (.ref a1), .val (.int (0 : Int32)), .val (.int (1 : Int32)), .val (.int (0 : Int32))] [(.int (0 : Int32)), (.ref a1), (.ref a0), (.int (Int32.ofNat ev)), (.ref a0)]))
    refine own_via (own_ldI X0 hx hZ e0 A_a1 (v := (.int (Int32.ofNat ev))) 0 rfl rfl (g := (mkF m 44 #[.val (.ref a0), .val (.ref a1), .val (.int (0 : Int32)), .val (.int (1 : Int32)), .val (.int (0 : Int32))] [(.int (0 : Int32)), (.ref a1), (.ref a0), (.int (Int32.ofNat ev)), (.ref a0)])) rfl rfl (hb hby d5_44)) ?_
    show OwnEnds p.tables e below _ (s₁.setTop (mkF m 45 #[.val (.ref a0), .val (.ref a1), .val (.int (0 : Int32)), .val (.int (1 : Int32)), .val (.int (0 : Int32))] [(.int (Int32.ofNat ev)), (.ref a0), (.int (Int32.ofNat ev)), (.ref a0)]))
    refine own_via (own_ldI X0 hx hZ e0 A_a0 (v := (.int (ex.getD ev 0))) ev (own_ofN (by omega)) (own_iv_get (by omega)) (g := (mkF m 45 #[.val (.ref a0), .val (.ref a1), .val (.int (0 : Int32)), .val (.int (1 : Int32)), .val (.int (0 : Int32))] [(.int (Int32.ofNat ev)), (.ref a0), (.int (Int32.ofNat ev)), (.ref a0)])) rfl rfl (hb hby d5_45)) ?_
    show OwnEnds p.tables e below _ (s₁.setTop (mkF m 46 #[.val (.ref a0), .val (.ref a1), .val (.int (0 : Int32)), .val (.int (1 : Int32)), .val (.int (0 : Int32))] [(.int (ex.getD ev 0)), (.int (Int32.ofNat ev)), (.ref a0)]))
    refine own_via (fun t k => XS.iconst X0.here hx rfl (hb hby d5_46) k) ?_
    show OwnEnds p.tables e below _ (s₁.setTop (mkF m 47 #[.val (.ref a0), .val (.ref a1), .val (.int (0 : Int32)), .val (.int (1 : Int32)), .val (.int (0 : Int32))] [(.int (1 : Int32)), (.int (ex.getD ev 0)), (.int (Int32.ofNat ev)), (.ref a0)]))
    refine own_via (fun t k => XS.iadd X0.here hx rfl (hb hby d5_47) rfl k) ?_
    show OwnEnds p.tables e below _ (s₁.setTop (mkF m 48 #[.val (.ref a0), .val (.ref a1), .val (.int (0 : Int32)), .val (.int (1 : Int32)), .val (.int (0 : Int32))] [(.int ((ex.getD ev 0) + (1 : Int32))), (.int (Int32.ofNat ev)), (.ref a0)]))
    obtain ⟨T8, h8, X8, e8, W8, AA8, st8⟩ := own_stI X0 hx hZ e0 A_a0 ev (own_ofN (by omega)) (by rw [own_iv_len]; omega) (g := (mkF m 48 #[.val (.ref a0), .val (.ref a1), .val (.int (0 : Int32)), .val (.int (1 : Int32)), .val (.int (0 : Int32))] [(.int ((ex.getD ev 0) + (1 : Int32))), (.int (Int32.ofNat ev)), (.ref a0)])) rfl rfl (hb hby d5_48)
    replace A_a1 := A_a1.other W8 (Ne.symm ne_0)
    replace K0 := K0.wr W8 (Or.inl (List.mem_of_getElem? (i := 0) rfl))
    have Zs_W8 : n0 ≤ _ := Nat.le_trans Z0 (Keep.of_wr W8).1
    replace A_a0 : AL Z h8 a0 .int ((own_iv ex).set ev (.int ((ex.getD ev 0) + (1 : Int32)))) := AA8
    have N8 := Fr.snoc X8 N0 g_a0
    refine own_via st8 ?_
    show OwnEnds p.tables e below _ (T8.setTop (mkF m 49 #[.val (.ref a0), .val (.ref a1), .val (.int (0 : Int32)), .val (.int (1 : Int32)), .val (.int (0 : Int32))] []))
    rw [own_iv_set] at A_a0
    refine own_retV X8 hx Bd.returns hlk (hb hby d5_49) ?_ (by decide) (by decide)
    rw [e8]
    exact ⟨rfl, N8, K0, A_a0, A_a1⟩
  · skip
    have A_a1 : AL Z h0 a1 .int [(.int (Int32.ofNat ev)), (.int (1 : Int32))] := A_a1
    show OwnEnds p.tables e below _ (s₁.setTop (mkF m 0 #[.val (.ref a0), .val (.ref a1), .val (.int (0 : Int32)), .val (.int (1 : Int32)), .unset] []))
    refine own_via (fun t k => XS.iloadN X0.here hx rfl (hb hby d5_0) rfl k) ?_
    show OwnEnds p.tables e below _ (s₁.setTop (mkF m 1 #[.val (.ref a0), .val (.ref a1), .val (.int (0 : Int32)), .val (.int (1 : Int32)), .unset] [(.int (1 : Int32))]))
    have hc1_9 : ¬ ((1 : Int32) = (0 : Int32)) := by decide
    refine own_via (fun t k => XS.ifYes X0.here hx rfl (pc0 := 1) (pc' := 5) rfl (hb hby d5_1) rfl ((if0 _ _).trans (feq hc1_9).2) (by decide) (by decide) k) ?_
    show OwnEnds p.tables e below _ (s₁.setTop (mkF m 5 #[.val (.ref a0), .val (.ref a1), .val (.int (0 : Int32)), .val (.int (1 : Int32)), .unset] []))
    refine own_via (fun t k => XS.iloadN X0.here hx rfl (hb hby d5_5) rfl k) ?_
    show OwnEnds p.tables e below _ (s₁.setTop (mkF m 6 #[.val (.ref a0), .val (.ref a1), .val (.int (0 : Int32)), .val (.int (1 : Int32)), .unset] [(.int (0 : Int32))]))
    have hc6_10 : (0 : Int32) = (0 : Int32) := by decide
    refine own_via (fun t k => XS.ifYes X0.here hx rfl (pc0 := 6) (pc' := 13) rfl (hb hby d5_6) rfl ((if0 _ _).trans (teq hc6_10).1) (by decide) (by decide) k) ?_
    show OwnEnds p.tables e below _ (s₁.setTop (mkF m 13 #[.val (.ref a0), .val (.ref a1), .val (.int (0 : Int32)), .val (.int (1 : Int32)), .unset] []))
    refine own_via (fun t k => XS.iconst X0.here hx rfl (hb hby d5_13) k) ?_
    show OwnEnds p.tables e below _ (s₁.setTop (mkF m 14 #[.val (.ref a0), .val (.ref a1), .val (.int (0 : Int32)), .val (.int (1 : Int32)), .unset] [(.int (0 : Int32))]))
    refine own_via (fun t k => XS.istore X0.here hx rfl (hb hby d5_14) rfl (l' := #[.val (.ref a0), .val (.ref a1), .val (.int (0 : Int32)), .val (.int (1 : Int32)), .val (.int (0 : Int32))]) rfl k) ?_
    show OwnEnds p.tables e below _ (s₁.setTop (mkF m 16 #[.val (.ref a0), .val (.ref a1), .val (.int (0 : Int32)), .val (.int (1 : Int32)), .val (.int (0 : Int32))] []))
    refine own_via (fun t k => XS.iload X0.here hx rfl (hb hby d5_16) rfl k) ?_
    show OwnEnds p.tables e below _ (s₁.setTop (mkF m 18 #[.val (.ref a0), .val (.ref a1), .val (.int (0 : Int32)), .val (.int (1 : Int32)), .val (.int (0 : Int32))] [(.int (0 : Int32))]))
    refine own_via (fun t k => XS.aloadN X0.here hx rfl (hb hby d5_18) rfl rfl k) ?_
    show OwnEnds p.tables e below _ (s₁.setTop (mkF m 19 #[.val (.ref a0), .val (.ref a1), .val (.int (0 : Int32)), .val (.int (1 : Int32)), .val (.int (0 : Int32))] [(.ref a1), (.int (0 : Int32))]))
    refine own_via (fun t k => XS.iconst X0.here hx rfl (hb hby d5_19) k) ?_
    show OwnEnds p.tables e below _ (s₁.setTop (mkF m 20 #[.val (.ref a0), .val (.ref a1), .val (.int (0 : Int32)), .val (.int (1 : Int32)), .val (.int (0 : Int32))] [(.int (1 : Int32)), (.ref a1), (.int (0 : Int32))]))
    refine own_via (own_ldI X0 hx hZ e0 A_a1 (v := (.int (1 : Int32))) 1 rfl rfl (g := (mkF m 20 #[.val (.ref a0), .val (.ref a1), .val (.int (0 : Int32)), .val (.int (1 : Int32)), .val (.int (0 : Int32))] [(.int (1 : Int32)), (.ref a1), (.int (0 : Int32))])) rfl rfl (hb hby d5_20)) ?_
    show OwnEnds p.tables e below _ (s₁.setTop (mkF m 21 #[.val (.ref a0), .val (.ref a1), .val (.int (0 : Int32)), .val (.int (1 : Int32)), .val (.int (0 : Int32))] [(.int (1 : Int32)), (.int (0 : Int32))]))
    have hc21_11 : ¬ ((0 : Int32) = (1 : Int32)) := by decide
    refine own_via (fun t k => XS.icmpNo X0.here hx rfl (hb hby d5_21) rfl (feq hc21_11).1 k) ?_
    show OwnEnds p.tables e below _ (s₁.setTop (mkF m 24 #[.val (.ref a0), .val (.ref a1), .val (.int (0 : Int32)), .val (.int (1 : Int32)), .val (.int (0 : Int32))] []))
    refine own_via (fun t k => XS.aloadN X0.here hx rfl (hb hby d5_24) rfl rfl k) ?_
    show OwnEnds p.tables e below _ (s₁.setTop (mkF m 25 #[.val (.ref a0), .val (.ref a1), .val (.int (0 : Int32)), .val (.int (1 : Int32)), .val (.int (0 : Int32))] [(.ref a1)]))
    refine own_via (fun t k => XS.iconst X0.here hx rfl (hb hby d5_25) k) ?_
    show OwnEnds p.tables e below _ (s₁.setTop (mkF m 26 #[.val (.ref a0), .val (.ref a1), .val (.int (0 : Int32)), .val (.int (1 : Int32)), .val (.int (0 : Int32))] [(.int (0 : Int32)), (.ref a1)]))
    refine own_via (fun t k => XS.aloadN X0.here hx rfl (hb hby d5_26) rfl rfl k) ?_
    show OwnEnds p.tables e below _ (s₁.setTop (mkF m 27 #[.val (.ref a0), .val (.ref a1), .val (.int (0 : Int32)), .val (.int (1 : Int32)), .val (.int (0 : Int32))] [(.ref a1), (.int (0 : Int32)), (.ref a1)]))
    refine own_via (fun t k => XS.iconst X0.here hx rfl (hb hby d5_27) k) ?_
    show OwnEnds p.tables e below _ (s₁.setTop (mkF m 28 #[.val (.ref a0), .val (.ref a1), .val (.int (0 : Int32)), .val (.int (1 : Int32)), .val (.int (0 : Int32))] [(.int (0 : Int32)), (.ref a1), (.int (0 : Int32)), (.ref a1)]))
    refine own_via (own_ldI X0 hx hZ e0 A_a1 (v := (.int (Int32.ofNat ev))) 0 rfl rfl (g := (mkF m 28 #[.val (.ref a0), .val (.ref a1), .val (.int (0 : Int32)), .val (.int (1 : Int32)), .val (.int (0 : Int32))] [(.int (0 : Int32)), (.ref a1), (.int (0 : Int32)), (.ref a1)])) rfl rfl (hb hby d5_28)) ?_
    show OwnEnds p.tables e below _ (s₁.setTop (mkF m 29 #[.val (.ref a0), .val (.ref a1), .val (.int (0 : Int32)), .val (.int (1 : Int32)), .val (.int (0 : Int32))] [(.int (Int32.ofNat ev)), (.int (0 : Int32)), (.ref a1)]))
    refine own_via (fun t k => XS.iconst X0.here hx rfl (hb hby d5_29) k) ?_
    show OwnEnds p.tables e below _ (s₁.setTop (mkF m 30 #[.val (.ref a0), .val (.ref a1), .val (.int (0 : Int32)), .val (.int (1 : Int32)), .val (.int (0 : Int32))] [(.int (1 : Int32)), (.int (Int32.ofNat ev)), (.int (0 : Int32)), (.ref a1)]))
    refine own_via (fun t k => XS.iadd X0.here hx rfl (hb hby d5_30) rfl k) ?_
    show OwnEnds p.tables e below _ (s₁.setTop (mkF m 31 #[.val (.ref a0), .val (.ref a1), .val (.int (0 : Int32)), .val (.int (1 : Int32)), .val (.int (0 : Int32))] [(.int ((Int32.ofNat ev) + (1 : Int32))), (.int (0 : Int32)), (.ref a1)]))
    obtain ⟨T12, h12, X12, e12, W12, AA12, st12⟩ := own_stI X0 hx hZ e0 A_a1 0 rfl (Nat.le_of_ble_eq_true rfl) (g := (mkF m 31 #[.val (.ref a0), .val (.ref a1), .val (.int (0 : Int32)), .val (.int (1 : Int32)), .val (.int (0 : Int32))] [(.int ((Int32.ofNat ev) + (1 : Int32))), (.int (0 : Int32)), (.ref a1)])) rfl rfl (hb hby d5_31)
    replace A_a0 := A_a0.other W12 ne_0
    replace K0 := K0.wr W12 (Or.inl (List.mem_of_getElem? (i := 1) rfl))
    have Zs_W12 : n0 ≤ _ := Nat.le_trans Z0 (Keep.of_wr W12).1
    replace A_a1 : AL Z h12 a1 .int [(.int ((Int32.ofNat ev) + (1 : Int32))), (.int (1 : Int32))] := AA12
    have N12 := Fr.snoc X12 N0 g_a1
    refine own_via st12 ?_
    show OwnEnds p.tables e below _ (T12.setTop (mkF m 32 #[.val (.ref a0), .val (.ref a1), .val (.int (0 : Int32)), .val (.int (1 : Int32)), .val (.int (0 : Int32))] []))
    refine own_via (fun t k => XS.aloadN X12.here hx rfl (hb hby d5_32) rfl rfl k) ?_
    show OwnEnds p.tables e below _ (T12.setTop (mkF m 33 #[.val (.ref a0), .val (.ref a1), .val (.int (0 : Int32)), .val (.int (1 : Int32)), .val (.int (0 : Int32))] [(.ref a1)]))
    refine own_via (fun t k => XS.iconst X12.here hx rfl (hb hby d5_33) k) ?_
    show OwnEnds p.tables e below _ (T12.setTop (mkF m 34 #[.val (.ref a0), .val (.ref a1), .val (.int (0 : Int32)), .val (.int (1 : Int32)), .val (.int (0 : Int32))] [(.int (1 : Int32)), (.ref a1)]))
    refine own_via (fun t k => XS.iload X12.here hx rfl (hb hby d5_34) rfl k) ?_
    show OwnEnds p.tables e below _ (T12.setTop (mkF m 36 #[.val (.ref a0), .val (.ref a1), .val (.int (0 : Int32)), .val (.int (1 : Int32)), .val (.int (0 : Int32))] [(.int (0 : Int32)), (.int (1 : Int32)), (.ref a1)]))
    obtain ⟨T13, h13, X13, e13, W13, AA13, st13⟩ := own_stI X12 hx hZ e12 A_a1 1 rfl (Nat.le_of_ble_eq_true rfl) (g := (mkF m 36 #[.val (.ref a0), .val (.ref a1), .val (.int (0 : Int32)), .val (.int (1 : Int32)), .val (.int (0 : Int32))] [(.int (0 : Int32)), (.int (1 : Int32)), (.ref a1)])) rfl rfl (hb hby d5_36)
    replace A_a0 := A_a0.other W13 ne_0
    replace K0 := K0.wr W13 (Or.inl (List.mem_of_getElem? (i := 1) rfl))
    have Zs_W13 : n0 ≤ _ := Nat.le_trans Zs_W12 (Keep.of_wr W13).1
    replace A_a1 : AL Z h13 a1 .int [(.int ((Int32.ofNat ev) + (1 : Int32))), (.int (0 : Int32))] := AA13
    have N13 := Fr.snoc X13 N12 g_a1
    refine own_via st13 ?_
    show OwnEnds p.tables e below _ (T13.setTop (mkF m 37 #[.val (.ref a0), .val (.ref a1), .val (.int (0 : Int32)), .val (.int (1 : Int32)), .val (.int (0 : Int32))] []))
    refine own_via (fun t k => XS.aloadN X13.here hx rfl (hb hby d5_37) rfl rfl k) ?_
    show OwnEnds p.tables e below _ (T13.setTop (mkF m 38 #[.val (.ref a0), .val (.ref a1), .val (.int (0 : Int32)), .val (.int (1 : Int32)), .val (.int (0 : Int32))] [(.ref a0)]))
    refine own_via (fun t k => XS.aloadN X13.here hx rfl (hb hby d5_38) rfl rfl k) ?_
    show OwnEnds p.tables e below _ (T13.setTop (mkF m 39 #[.val (.ref a0), .val (.ref a1), .val (.int (0 : Int32)), .val (.int (1 : Int32)), .val (.int (0 : Int32))] [(.ref a1), (.ref a0)]))
    refine own_via (fun t k => XS.iconst X13.here hx rfl (hb hby d5_39) k) ?_
    show OwnEnds p.tables e below _ (T13.setTop (mkF m 40 #[.val (.ref a0), .val (.ref a1), .val (.int (0 : Int32)), .val (.int (1 : Int32)), .val (.int (0 : Int32))] [(.int (0 : Int32)), (.ref a1), (.ref a0)]))
    refine own_via (own_ldI X13 hx hZ e13 A_a1 (v := (.int ((Int32.ofNat ev) + (1 : Int32)))) 0 rfl rfl (g := (mkF m 40 #[.val (.ref a0), .val (.ref a1), .val (.int (0 : Int32)), .val (.int (1 : Int32)), .val (.int (0 : Int32))] [(.int (0 : Int32)), (.ref a1), (.ref a0)])) rfl rfl (hb hby d5_40)) ?_
    show OwnEnds p.tables e below _ (T13.setTop (mkF m 41 #[.val (.ref a0), .val (.ref a1), .val (.int (0 : Int32)), .val (.int (1 : Int32)), .val (.int (0 : Int32))] [(.int ((Int32.ofNat ev) + (1 : Int32))), (.ref a0)]))
    refine own_via (fun t k => XS.aloadN X13.here hx rfl (hb hby d5_41) rfl rfl k) ?_
    show OwnEnds p.tables e below _ (T13.setTop (mkF m 42 #[.val (.ref a0), .val (.ref a1), .val (.int (0 : Int32)), .val (.int (1 : Int32)), .val (.int (0 : Int32))] [(.ref a0), (.int ((Int32.ofNat ev) + (1 : Int32))), (.ref a0)]))
    refine own_via (fun t k => XS.aloadN X13.here hx rfl (hb hby d5_42) rfl rfl k) ?_
    show OwnEnds p.tables e below _ (T13.setTop (mkF m 43 #[.val (.ref a0), .val (.ref a1), .val (.int (0 : Int32)), .val (.int (1 : Int32)), .val (.int (0 : Int32))] [(.ref a1), (.ref a0), (.int ((Int32.ofNat ev) + (1 : Int32))), (.ref a0)]))
    refine own_via (fun t k => XS.iconst X13.here hx rfl (hb hby d5_43) k) ?_
    show OwnEnds p.tables e below _ (T13.setTop (mkF m 44 #[.val (.ref a0), .val (.ref a1), .val (.int (0 : Int32)), .val (.int (1 : Int32)), .val (.int (0 : Int32))] [(.int (0 : Int32)), (.ref a1), (.ref a0), (.int ((Int32.ofNat ev) + (1 : Int32))), (.ref a0)]))
    refine own_via (own_ldI X13 hx hZ e13 A_a1 (v := (.int ((Int32.ofNat ev) + (1 : Int32)))) 0 rfl rfl (g := (mkF m 44 #[.val (.ref a0), .val (.ref a1), .val (.int (0 : Int32)), .val (.int (1 : Int32)), .val (.int (0 : Int32))] [(.int (0 : Int32)), (.ref a1), (.ref a0), (.int ((Int32.ofNat ev) + (1 : Int32))), (.ref a0)])) rfl rfl (hb hby d5_44)) ?_
    show OwnEnds p.tables e below _ (T13.setTop (mkF m 45 #[.val (.ref a0), .val (.ref a1), .val (.int (0 : Int32)), .val (.int (1 : Int32)), .val (.int (0 : Int32))] [(.int ((Int32.ofNat ev) + (1 : Int32))), (.ref a0), (.int ((Int32.ofNat ev) + (1 : Int32))), (.ref a0)]))
    refine own_via (own_ldI X13 hx hZ e13 A_a0 (v := (.int (ex.getD (ev + 1) 0))) (ev + 1) (own_ofN1 (by omega)) (own_iv_get (by omega)) (g := (mkF m 45 #[.val (.ref a0), .val (.ref a1), .val (.int (0 : Int32)), .val (.int (1 : Int32)), .val (.int (0 : Int32))] [(.int ((Int32.ofNat ev) + (1 : Int32))), (.ref a0), (.int ((Int32.ofNat ev) + (1 : Int32))), (.ref a0)])) rfl rfl (hb hby d5_45)) ?_
    show OwnEnds p.tables e below _ (T13.setTop (mkF m 46 #[.val (.ref a0), .val (.ref a1), .val (.int (0 : Int32)), .val (.int (1 : Int32)), .val (.int (0 : Int32))] [(.int (ex.getD (ev + 1) 0)), (.int ((Int32.ofNat ev) + (1 : Int32))), (.ref a0)]))
    refine own_via (fun t k => XS.iconst X13.here hx rfl (hb hby d5_46) k) ?_
    show OwnEnds p.tables e below _ (T13.setTop (mkF m 47 #[.val (.ref a0), .val (.ref a1), .val (.int (0 : Int32)), .val (.int (1 : Int32)), .val (.int (0 : Int32))] [(.int (1 : Int32)), (.int (ex.getD (ev + 1) 0)), (.int ((Int32.ofNat ev) + (1 : Int32))), (.ref a0)]))
    refine own_via (fun t k => XS.iadd X13.here hx rfl (hb hby d5_47) rfl k) ?_
    show OwnEnds p.tables e below _ (T13.setTop (mkF m 48 #[.val (.ref a0), .val (.ref a1), .val (.int (0 : Int32)), .val (.int (1 : Int32)), .val (.int (0 : Int32))] [(.int ((ex.getD (ev + 1) 0) + (1 : Int32))), (.int ((Int32.ofNat ev) + (1 : Int32))), (.ref a0)]))
    obtain ⟨T14, h14, X14, e14, W14, AA14, st14⟩ := own_stI X13 hx hZ e13 A_a0 (ev + 1) (own_ofN1 (by omega)) (by rw [own_iv_len]; omega) (g := (mkF m 48 #[.val (.ref a0), .val (.ref a1), .val (.int (0 : Int32)), .val (.int (1 : Int32)), .val (.int (0 : Int32))] [(.int ((ex.getD (ev + 1) 0) + (1 : Int32))), (.int ((Int32.ofNat ev) + (1 : Int32))), (.ref a0)])) rfl rfl (hb hby d5_48)
    replace A_a1 := A_a1.other W14 (Ne.symm ne_0)
    replace K0 := K0.wr W14 (Or.inl (List.mem_of_getElem? (i := 0) rfl))
    have Zs_W14 : n0 ≤ _ := Nat.le_trans Zs_W13 (Keep.of_wr W14).1
    replace A_a0 : AL Z h14 a0 .int ((own_iv ex).set (ev + 1) (.int ((ex.getD (ev + 1) 0) + (1 : Int32)))) := AA14
    have N14 := Fr.snoc X14 N13 g_a0
    refine own_via st14 ?_
    show OwnEnds p.tables e below _ (T14.setTop (mkF m 49 #[.val (.ref a0), .val (.ref a1), .val (.int (0 : Int32)), .val (.int (1 : Int32)), .val (.int (0 : Int32))] []))
    rw [own_iv_set] at A_a0
    rw [own_of1] at A_a1
    refine own_retV X14 hx Bd.returns hlk (hb hby d5_49) ?_ (by decide) (by decide)
    rw [e14]
    exact ⟨rfl, N14, K0, A_a0, A_a1⟩
  · skip
    have A_a1 : AL Z h0 a1 .int [(.int (Int32.ofNat ev)), (.int (0 : Int32))] := A_a1
    show OwnEnds p.tables e below _ (s₁.setTop (mkF m 0 #[.val (.ref a0), .val (.ref a1), .val (.int (1 : Int32)), .val (.int (1 : Int32)), .unset] []))
    refine own_via (fun t k => XS.iloadN X0.here hx rfl (hb hby d5_0) rfl k) ?_
    show OwnEnds p.tables e below _ (s₁.setTop (mkF m 1 #[.val (.ref a0), .val (.ref a1), .val (.int (1 : Int32)), .val (.int (1 : Int32)), .unset] [(.int (1 : Int32))]))
    have hc1_15 : ¬ ((1 : Int32) = (0 : Int32)) := by decide
    refine own_via (fun t k => XS.ifYes X0.here hx rfl (pc0 := 1) (pc' := 5) rfl (hb hby d5_1) rfl ((if0 _ _).trans (feq hc1_15).2) (by decide) (by decide) k) ?_
    show OwnEnds p.tables e below _ (s₁.setTop (mkF m 5 #[.val (.ref a0), .val (.ref a1), .val (.int (1 : Int32)), .val (.int (1 : Int32)), .unset] []))
    refine own_via (fun t k => XS.iloadN X0.here hx rfl (hb hby d5_5) rfl k) ?_
    show OwnEnds p.tables e below _ (s₁.setTop (mkF m 6 #[.val (.ref a0), .val (.ref a1), .val (.int (1 : Int32)), .val (.int (1 : Int32)), .unset] [(.int (1 : Int32))]))
    have hc6_16 : ¬ ((1 : Int32) = (0 : Int32)) := by decide
    refine own_via (fun t k => XS.ifNo X0.here hx rfl (hb hby d5_6) rfl ((if0 _ _).trans (feq hc6_16).1) k) ?_
    show OwnEnds p.tables e below _ (s₁.setTop (mkF m 9 #[.val (.ref a0), .val (.ref a1), .val (.int (1 : Int32)), .val (.int (1 : Int32)), .unset] []))
    refine own_via (fun t k => XS.iconst X0.here hx rfl (hb hby d5_9) k) ?_
    show OwnEnds p.tables e below _ (s₁.setTop (mkF m 10 #[.val (.ref a0), .val (.ref a1), .val (.int (1 : Int32)), .val (.int (1 : Int32)), .unset] [(.int (1 : Int32))]))
    refine own_via (fun t k => XS.goto X0.here hx rfl (pc0 := 10) (pc' := 14) rfl (hb hby d5_10) (by decide) (by decide) k) ?_
    show OwnEnds p.tables e below _ (s₁.setTop (mkF m 14 #[.val (.ref a0), .val (.ref a1), .val (.int (1 : Int32)), .val (.int (1 : Int32)), .unset] [(.int (1 : Int32))]))
    refine own_via (fun t k => XS.istore X0.here hx rfl (hb hby d5_14) rfl (l' := #[.val (.ref a0), .val (.ref a1), .val (.int (1 : Int32)), .val (.int (1 : Int32)), .val (.int (1 : Int32))]) rfl k) ?_
    show OwnEnds p.tables e below _ (s₁.setTop (mkF m 16 #[.val (.ref a0), .val (.ref a1), .val (.int (1 : Int32)), .val (.int (1 : Int32)), .val (.int (1 : Int32))] []))
    refine own_via (fun t k => XS.iload X0.here hx rfl (hb hby d5_16) rfl k) ?_
    show OwnEnds p.tables e below _ (s₁.setTop (mkF m 18 #[.val (.ref a0), .val (.ref a1), .val (.int (1 : Int32)), .val (.int (1 : Int32)), .val (.int (1 : Int32))] [(.int (1 : Int32))]))
    refine own_via (fun t k => XS.aloadN X0.here hx rfl (hb hby d5_18) rfl rfl k) ?_
    show OwnEnds p.tables e below _ (s₁.setTop (mkF m 19 #[.val (.ref a0), .val (.ref a1), .val (.int (1 : Int32)), .val (.int (1 : Int32)), .val (.int (1 : Int32))] [(.ref a1), (.int (1 : Int32))]))
    refine own_via (fun t k => XS.iconst X0.here hx rfl (hb hby d5_19) k) ?_
    show OwnEnds p.tables e below _ (s₁.setTop (mkF m 20 #[.val (.ref a0), .val (.ref a1), .val (.int (1 : Int32)), .val (.int (1 : Int32)), .val (.int (1 : Int32))] [(.int (1 : Int32)), (.ref a1), (.int (1 : Int32))]))
    refine own_via (own_ldI X0 hx hZ e0 A_a1 (v := (.int (0 : Int32))) 1 rfl rfl (g := (mkF m 20 #[.val (.ref a0), .val (.ref a1), .val (.int (1 : Int32)), .val (.int (1 : Int32)), .val (.int (1 : Int32))] [(.int (1 : Int32)), (.ref a1), (.int (1 : Int32))])) rfl rfl (hb hby d5_20)) ?_
    show OwnEnds p.tables e below _ (s₁.setTop (mkF m 21 #[.val (.ref a0), .val (.ref a1), .val (.int (1 : Int32)), .val (.int (1 : Int32)), .val (.int (1 : Int32))] [(.int (0 : Int32)), (.int (1 : Int32))]))
    have hc21_17 : ¬ ((1 : Int32) = (0 : Int32)) := by decide
    refine own_via (fun t k => XS.icmpNo X0.here hx rfl (hb hby d5_21) rfl (feq hc21_17).1 k) ?_
    show OwnEnds p.tables e below _ (s₁.setTop (mkF m 24 #[.val (.ref a0), .val (.ref a1), .val (.int (1 : Int32)), .val (.int (1 : Int32)), .val (.int (1 : Int32))] []))
    refine own_via (fun t k => XS.aloadN X0.here hx rfl (hb hby d5_24) rfl rfl k) ?_
    show OwnEnds p.tables e below _ (s₁.setTop (mkF m 25 #[.val (.ref a0), .val (.ref a1), .val (.int (1 : Int32)), .val (.int (1 : Int32)), .val (.int (1 : Int32))] [(.ref a1)]))
    refine own_via (fun t k => XS.iconst X0.here hx rfl (hb hby d5_25) k) ?_
    show OwnEnds p.tables e below _ (s₁.setTop (mkF m 26 #[.val (.ref a0), .val (.ref a1), .val (.int (1 : Int32)), .val (.int (1 : Int32)), .val (.int (1 : Int32))] [(.int (0 : Int32)), (.ref a1)]))
    refine own_via (fun t k => XS.aloadN X0.here hx rfl (hb hby d5_26) rfl rfl k) ?_
    show OwnEnds p.tables e below _ (s₁.setTop (mkF m 27 #[.val (.ref a0), .val (.ref a1), .val (.int (1 : Int32)), .val (.int (1 : Int32)), .val (.int (1 : Int32))] [(.ref a1), (.int (0 : Int32)), (.ref a1)]))
    refine own_via (fun t k => XS.iconst X0.here hx rfl (hb hby d5_27) k) ?_
    show OwnEnds p.tables e below _ (s₁.setTop (mkF m 28 #[.val (.ref a0), .val (.ref a1), .val (.int (1 : Int32)), .val (.int (1 : Int32)), .val (.int (1 : Int32))] [(.int (0 : Int32)), (.ref a1), (.int (0 : Int32)), (.ref a1)]))
    refine own_via (own_ldI X0 hx hZ e0 A_a1 (v := (.int (Int32.ofNat ev))) 0 rfl rfl (g := (mkF m 28 #[.val (.ref a0), .val (.ref a1), .val (.int (1 : Int32)), .val (.int (1 : Int32)), .val (.int (1 : Int32))] [(.int (0 : Int32)), (.ref a1), (.int (0 : Int32)), (.ref a1)])) rfl rfl (hb hby d5_28)) ?_
    show OwnEnds p.tables e below _ (s₁.setTop (mkF m 29 #[.val (.ref a0), .val (.ref a1), .val (.int (1 : Int32)), .val (.int (1 : Int32)), .val (.int (1 : Int32))] [(.int (Int32.ofNat ev)), (.int (0 : Int32)), (.ref a1)]))
    refine own_via (fun t k => XS.iconst X0.here hx rfl (hb hby d5_29) k) ?_
    show OwnEnds p.tables e below _ (s₁.setTop (mkF m 30 #[.val (.ref a0), .val (.ref a1), .val (.int (1 : Int32)), .val (.int (1 : Int32)), .val (.int (1 : Int32))] [(.int (1 : Int32)), (.int (Int32.ofNat ev)), (.int (0 : Int32)), (.ref a1)]))
    refine own_via (fun t k => XS.iadd X0.here hx rfl (hb hby d5_30) rfl k) ?_
    show OwnEnds p.tables e below _ (s₁.setTop (mkF m 31 #[.val (.ref a0), .val (.ref a1), .val (.int (1 : Int32)), .val (.int (1 : Int32)), .val (.int (1 : Int32))] [(.int ((Int32.ofNat ev) + (1 : Int32))), (.int (0 : Int32)), (.ref a1)]))
    obtain ⟨T18, h18, X18, e18, W18, AA18, st18⟩ := own_stI X0 hx hZ e0 A_a1 0 rfl (Nat.le_of_ble_eq_true rfl) (g := (mkF m 31 #[.val (.ref a0), .val (.ref a1), .val (.int (1 : Int32)), .val (.int (1 : Int32)), .val (.int (1 : Int32))] [(.int ((Int32.ofNat ev) + (1 : Int32))), (.int (0 : Int32)), (.ref a1)])) rfl rfl (hb hby d5_31)
    replace A_a0 := A_a0.other W18 ne_0
    replace K0 := K0.wr W18 (Or.inl (List.mem_of_getElem? (i := 1) rfl))
    have Zs_W18 : n0 ≤ _ := Nat.le_trans Z0 (Keep.of_wr W18).1
    replace A_a1 : AL Z h18 a1 .int [(.int ((Int32.ofNat ev) + (1 : Int32))), (.int (0 : Int32))] := AA18
    have N18 := Fr.snoc X18 N0 g_a1
    refine own_via st18 ?_
    show OwnEnds p.tables e below _ (T18.setTop (mkF m 32 #[.val (.ref a0), .val (.ref a1), .val (.int (1 : Int32)), .val (.int (1 : Int32)), .val (.int (1 : Int32))] []))
    refine own_via (fun t k => XS.aloadN X18.here hx rfl (hb hby d5_32) rfl rfl k) ?_
    show OwnEnds p.tables e below _ (T18.setTop (mkF m 33 #[.val (.ref a0), .val (.ref a1), .val (.int (1 : Int32)), .val (.int (1 : Int32)), .val (.int (1 : Int32))] [(.ref a1)]))
    refine own_via (fun t k => XS.iconst X18.here hx rfl (hb hby d5_33) k) ?_
    show OwnEnds p.tables e below _ (T18.setTop (mkF m 34 #[.val (.ref a0), .val (.ref a1), .val (.int (1 : Int32)), .val (.int (1 : Int32)), .val (.int (1 : Int32))] [(.int (1 : Int32)), (.ref a1)]))
    refine own_via (fun t k => XS.iload X18.here hx rfl (hb hby d5_34) rfl k) ?_
    show OwnEnds p.tables e below _ (T18.setTop (mkF m 36 #[.val (.ref a0), .val (.ref a1), .val (.int (1 : Int32)), .val (.int (1 : Int32)), .val (.int (1 : Int32))] [(.int (1 : Int32)), (.int (1 : Int32)), (.ref a1)]))
    obtain ⟨T19, h19, X19, e19, W19, AA19, st19⟩ := own_stI X18 hx hZ e18 A_a1 1 rfl (Nat.le_of_ble_eq_true rfl) (g := (mkF m 36 #[.val (.ref a0), .val (.ref a1), .val (.int (1 : Int32)), .val (.int (1 : Int32)), .val (.int (1 : Int32))] [(.int (1 : Int32)), (.int (1 : Int32)), (.ref a1)])) rfl rfl (hb hby d5_36)
    replace A_a0 := A_a0.other W19 ne_0
    replace K0 := K0.wr W19 (Or.inl (List.mem_of_getElem? (i := 1) rfl))
    have Zs_W19 : n0 ≤ _ := Nat.le_trans Zs_W18 (Keep.of_wr W19).1
    replace A_a1 : AL Z h19 a1 .int [(.int ((Int32.ofNat ev) + (1 : Int32))), (.int (1 : Int32))] := AA19
    have N19 := Fr.snoc X19 N18 g_a1
    refine own_via st19 ?_
    show OwnEnds p.tables e below _ (T19.setTop (mkF m 37 #[.val (.ref a0), .val (.ref a1), .val (.int (1 : Int32)), .val (.int (1 : Int32)), .val (.int (1 : Int32))] []))
    refine own_via (fun t k => XS.aloadN X19.here hx rfl (hb hby d5_37) rfl rfl k) ?_
    show OwnEnds p.tables e below _ (T19.setTop (mkF m 38 #[.val (.ref a0), .val (.ref a1), .val (.int (1 : Int32)), .val (.int (1 : Int32)), .val (.int (1 : Int32))] [(.ref a0)]))
    refine own_via (fun t k => XS.aloadN X19.here hx rfl (hb hby d5_38) rfl rfl k) ?_
    show OwnEnds p.tables e below _ (T19.setTop (mkF m 39 #[.val (.ref a0), .val (.ref a1), .val (.int (1 : Int32)), .val (.int (1 : Int32)), .val (.int (1 : Int32))] [(.ref a1), (.ref a0)]))
    refine own_via (fun t k => XS.iconst X19.here hx rfl (hb hby d5_39) k) ?_
    show OwnEnds p.tables e below _ (T19.setTop (mkF m 40 #[.val (.ref a0), .val (.ref a1), .val (.int (1 : Int32)), .val (.int (1 : Int32)), .val (.int (1 : Int32))] [(.int (0 : Int32)), (.ref a1), (.ref a0)]))
    refine own_via (own_ldI X19 hx hZ e19 A_a1 (v := (.int ((Int32.ofNat ev) + (1 : Int32)))) 0 rfl rfl (g := (mkF m 40 #[.val (.ref a0), .val (.ref a1), .val (.int (1 : Int32)), .val (.int (1 : Int32)), .val (.int (1 : Int32))] [(.int (0 : Int32)), (.ref a1), (.ref a0)])) rfl rfl (hb hby d5_40)) ?_
    show OwnEnds p.tables e below _ (T19.setTop (mkF m 41 #[.val (.ref a0), .val (.ref a1), .val (.int (1 : Int32)), .val (.int (1 : Int32)), .val (.int (1 : Int32))] [(.int ((Int32.ofNat ev) + (1 : Int32))), (.ref a0)]))
    refine own_via (fun t k => XS.aloadN X19.here hx rfl (hb hby d5_41) rfl rfl k) ?_
    show OwnEnds p.tables e below _ (T19.setTop (mkF m 42 #[.val (.ref a0), .val (.ref a1), .val (.int (1 : Int32)), .val (.int (1 : Int32)), .val (.int (1 : Int32))] [(.ref a0), (.int ((Int32.ofNat ev) + (1 : Int32))), (.ref a0)]))
    refine own_via (fun t k => XS.aloadN X19.here hx rfl (hb hby d5_42) rfl rfl k) ?_
    show OwnEnds p.tables e below _ (T19.setTop (mkF m 43 #[.val (.ref a0), .val (.ref a1), .val (.int (1 : Int32)), .val (.int (1 : Int32)), .val (.int (1 : Int32))] [(.ref a1), (.ref a0), (.int ((Int32.ofNat ev) + (1 : Int32))), (.ref a0)]))
    refine own_via (fun t k => XS.iconst X19.here hx rfl (hb hby d5_43) k) ?_
    show OwnEnds p.tables e below _ (T19.setTop (mkF m 44 #[.val (.ref a0), .val (.ref a1), .val (.int (1 : Int32)), .val (.int (1 : Int32)), .val (.int (1 : Int32))] [(.int (0 : Int32)), (.ref a1), (.ref a0), (.int ((Int32.ofNat ev) + (1 : Int32))), (.ref a0)]))
    refine own_via (own_ldI X19 hx hZ e19 A_a1 (v := (.int ((Int32.ofNat ev) + (1 : Int32)))) 0 rfl rfl (g := (mkF m 44 #[.val (.ref a0), .val (.ref a1), .val (.int (1 : Int32)), .val (.int (1 : Int32)), .val (.int (1 : Int32))] [(.int (0 : Int32)), (.ref a1), (.ref a0), (.int ((Int32.ofNat ev) + (1 : Int32))), (.ref a0)])) rfl rfl (hb hby d5_44)) ?_
    show OwnEnds p.tables e below _ (T19.setTop (mkF m 45 #[.val (.ref a0), .val (.ref a1), .val (.int (1 : Int32)), .val (.int (1 : Int32)), .val (.int (1 : Int32))] [(.int ((Int32.ofNat ev) + (1 : Int32))), (.ref a0), (.int ((Int32.ofNat ev) + (1 : Int32))), (.ref a0)]))
    refine own_via (own_ldI X19 hx hZ e19 A_a0 (v := (.int (ex.getD (ev + 1) 0))) (ev + 1) (own_ofN1 (by omega)) (own_iv_get (by omega)) (g := (mkF m 45 #[.val (.ref a0), .val (.ref a1), .val (.int (1 : Int32)), .val (.int (1 : Int32)), .val (.int (1 : Int32))] [(.int ((Int32.ofNat ev) + (1 : Int32))), (.ref a0), (.int ((Int32.ofNat ev) + (1 : Int32))), (.ref a0)])) rfl rfl (hb hby d5_45)) ?_
    show OwnEnds p.tables e below _ (T19.setTop (mkF m 46 #[.val (.ref a0), .val (.ref a1), .val (.int (1 : Int32)), .val (.int (1 : Int32)), .val (.int (1 : Int32))] [(.int (ex.getD (ev + 1) 0)), (.int ((Int32.ofNat ev) + (1 : Int32))), (.ref a0)]))
    refine own_via (fun t k => XS.iconst X19.here hx rfl (hb hby d5_46) k) ?_
    show OwnEnds p.tables e below _ (T19.setTop (mkF m 47 #[.val (.ref a0), .val (.ref a1), .val (.int (1 : Int32)), .val (.int (1 : Int32)), .val (.int (1 : Int32))] [(.int (1 : Int32)), (.int (ex.getD (ev + 1) 0)), (.int ((Int32.ofNat ev) + (1 : Int32))), (.ref a0)]))
    refine own_via (fun t k => XS.iadd X19.here hx rfl (hb hby d5_47) rfl k) ?_
    show OwnEnds p.tables e below _ (T19.setTop (mkF m 48 #[.val (.ref a0), .val (.ref a1), .val (.int (1 : Int32)), .val (.int (1 : Int32)), .val (.int (1 : Int32))] [(.int ((ex.getD (ev + 1) 0) + (1 : Int32))), (.int ((Int32.ofNat ev) + (1 : Int32))), (.ref a0)]))
    obtain ⟨T20, h20, X20, e20, W20, AA20, st20⟩ := own_stI X19 hx hZ e19 A_a0 (ev + 1) (own_ofN1 (by omega)) (by rw [own_iv_len]; omega) (g := (mkF m 48 #[.val (.ref a0), .val (.ref a1), .val (.int (1 : Int32)), .val (.int (1 : Int32)), .val (.int (1 : Int32))] [(.int ((ex.getD (ev + 1) 0) + (1 : Int32))), (.int ((Int32.ofNat ev) + (1 : Int32))), (.ref a0)])) rfl rfl (hb hby d5_48)
    replace A_a1 := A_a1.other W20 (Ne.symm ne_0)
    replace K0 := K0.wr W20 (Or.inl (List.mem_of_getElem? (i := 0) rfl))
    have Zs_W20 : n0 ≤ _ := Nat.le_trans Zs_W19 (Keep.of_wr W20).1
    replace A_a0 : AL Z h20 a0 .int ((own_iv ex).set (ev + 1) (.int ((ex.getD (ev + 1) 0) + (1 : Int32)))) := AA20
    have N20 := Fr.snoc X20 N19 g_a0
    refine own_via st20 ?_
    show OwnEnds p.tables e below _ (T20.setTop (mkF m 49 #[.val (.ref a0), .val (.ref a1), .val (.int (1 : Int32)), .val (.int (1 : Int32)), .val (.int (1 : Int32))] []))
    rw [own_iv_set] at A_a0
    rw [own_of1] at A_a1
    refine own_retV X20 hx Bd.returns hlk (hb hby d5_49) ?_ (by decide) (by decide)
    rw [e20]
    exact ⟨rfl, N20, K0, A_a0, A_a1⟩
  · skip
    have A_a1 : AL Z h0 a1 .int [(.int (Int32.ofNat ev)), (.int (1 : Int32))] := A_a1
    show OwnEnds p.tables e below _ (s₁.setTop (mkF m 0 #[.val (.ref a0), .val (.ref a1), .val (.int (1 : Int32)), .val (.int (1 : Int32)), .unset] []))
    refine own_via (fun t k => XS.iloadN X0.here hx rfl (hb hby d5_0) rfl k) ?_
    show OwnEnds p.tables e below _ (s₁.setTop (mkF m 1 #[.val (.ref a0), .val (.ref a1), .val (.int (1 : Int32)), .val (.int (1 : Int32)), .unset] [(.int (1 : Int32))]))
    have hc1_21 : ¬ ((1 : Int32) = (0 : Int32)) := by decide
    refine own_via (fun t k => XS.ifYes X0.here hx rfl (pc0 := 1) (pc' := 5) rfl (hb hby d5_1) rfl ((if0 _ _).trans (feq hc1_21).2) (by decide) (by decide) k) ?_
    show OwnEnds p.tables e below _ (s₁.setTop (mkF m 5 #[.val (.ref a0), .val (.ref a1), .val (.int (1 : Int32)), .val (.int (1 : Int32)), .unset] []))
    refine own_via (fun t k => XS.iloadN X0.here hx rfl (hb hby d5_5) rfl k) ?_
    show OwnEnds p.tables e below _ (s₁.setTop (mkF m 6 #[.val (.ref a0), .val (.ref a1), .val (.int (1 : Int32)), .val (.int (1 : Int32)), .unset] [(.int (1 : Int32))]))
    have hc6_22 : ¬ ((1 : Int32) = (0 : Int32)) := by decide
    refine own_via (fun t k => XS.ifNo X0.here hx rfl (hb hby d5_6) rfl ((if0 _ _).trans (feq hc6_22).1) k) ?_
    show OwnEnds p.tables e below _ (s₁.setTop (mkF m 9 #[.val (.ref a0), .val (.ref a1), .val (.int (1 : Int32)), .val (.int (1 : Int32)), .unset] []))
    refine own_via (fun t k => XS.iconst X0.here hx rfl (hb hby d5_9) k) ?_
    show OwnEnds p.tables e below _ (s₁.setTop (mkF m 10 #[.val (.ref a0), .val (.ref a1), .val (.int (1 : Int32)), .val (.int (1 : Int32)), .unset] [(.int (1 : Int32))]))
    refine own_via (fun t k => XS.goto X0.here hx rfl (pc0 := 10) (pc' := 14) rfl (hb hby d5_10) (by decide) (by decide) k) ?_
    show OwnEnds p.tables e below _ (s₁.setTop (mkF m 14 #[.val (.ref a0), .val (.ref a1), .val (.int (1 : Int32)), .val (.int (1 : Int32)), .unset] [(.int (1 : Int32))]))
    refine own_via (fun t k => XS.istore X0.here hx rfl (hb hby d5_14) rfl (l' := #[.val (.ref a0), .val (.ref a1), .val (.int (1 : Int32)), .val (.int (1 : Int32)), .val (.int (1 : Int32))]) rfl k) ?_
    show OwnEnds p.tables e below _ (s₁.setTop (mkF m 16 #[.val (.ref a0), .val (.ref a1), .val (.int (1 : Int32)), .val (.int (1 : Int32)), .val (.int (1 : Int32))] []))
    refine own_via (fun t k => XS.iload X0.here hx rfl (hb hby d5_16) rfl k) ?_
    show OwnEnds p.tables e below _ (s₁.setTop (mkF m 18 #[.val (.ref a0), .val (.ref a1), .val (.int (1 : Int32)), .val (.int (1 : Int32)), .val (.int (1 : Int32))] [(.int (1 : Int32))]))
    refine own_via (fun t k => XS.aloadN X0.here hx rfl (hb hby d5_18) rfl rfl k) ?_
    show OwnEnds p.tables e below _ (s₁.setTop (mkF m 19 #[.val (.ref a0), .val (.ref a1), .val (.int (1 : Int32)), .val (.int (1 : Int32)), .val (.int (1 : Int32))] [(.ref a1), (.int (1 : Int32))]))
    refine own_via (fun t k => XS.iconst X0.here hx rfl (hb hby d5_19) k) ?_
    show OwnEnds p.tables e below _ (s₁.setTop (mkF m 20 #[.val (.ref a0), .val (.ref a1), .val (.int (1 : Int32)), .val (.int (1 : Int32)), .val (.int (1 : Int32))] [(.int (1 : Int32)), (.ref a1), (.int (1 : Int32))]))
    refine own_via (own_ldI X0 hx hZ e0 A_a1 (v := (.int (1 : Int32))) 1 rfl rfl (g := (mkF m 20 #[.val (.ref a0), .val (.ref a1), .val (.int (1 : Int32)), .val (.int (1 : Int32)), .val (.int (1 : Int32))] [(.int (1 : Int32)), (.ref a1), (.int (1 : Int32))])) rfl rfl (hb hby d5_20)) ?_
    show OwnEnds p.tables e below _ (s₁.setTop (mkF m 21 #[.val (.ref a0), .val (.ref a1), .val (.int (1 : Int32)), .val (.int (1 : Int32)), .val (.int (1 : Int32))] [(.int (1 : Int32)), (.int (1 : Int32))]))
    have hc21_23 : (1 : Int32) = (1 : Int32) := by decide
    refine own_via (fun t k => XS.icmpYes X0.here hx rfl (pc0 := 21) (pc' := 37) rfl (hb hby d5_21) rfl (teq hc21_23).1 (by decide) (by decide) k) ?_
    show OwnEnds p.tables e below _ (s₁.setTop (mkF m 37 #[.val (.ref a0), .val (.ref a1), .val (.int (1 : Int32)), .val (.int (1 : Int32)), .val (.int (1 : Int32))] []))
    refine own_via (fun t k => XS.aloadN X0.here hx rfl (hb hby d5_37) rfl rfl k) ?_
    show OwnEnds p.tables e below _ (s₁.setTop (mkF m 38 #[.val (.ref a0), .val (.ref a1), .val (.int (1 : Int32)), .val (.int (1 : Int32)), .val (.int (1 : Int32))] [(.ref a0)]))
    refine own_via (fun t k => XS.aloadN X0.here hx rfl (hb hby d5_38) rfl rfl k) ?_
    show OwnEnds p.tables e below _ (s₁.setTop (mkF m 39 #[.val (.ref a0), .val (.ref a1), .val (.int (1 : Int32)), .val (.int (1 : Int32)), .val (.int (1 : Int32))] [(.ref a1), (.ref a0)]))
    refine own_via (fun t k => XS.iconst X0.here hx rfl (hb hby d5_39) k) ?_
    show OwnEnds p.tables e below _ (s₁.setTop (mkF m 40 #[.val (.ref a0), .val (.ref a1), .val (.int (1 : Int32)), .val (.int (1 : Int32)), .val (.int (1 : Int32))] [(.int (0 : Int32)), (.ref a1), (.ref a0)]))
    refine own_via (own_ldI X0 hx hZ e0 A_a1 (v := (.int (Int32.ofNat ev))) 0 rfl rfl (g := (mkF m 40 #[.val (.ref a0), .val (.ref a1), .val (.int (1 : Int32)), .val (.int (1 : Int32)), .val (.int (1 : Int32))] [(.int (0 : Int32)), (.ref a1), (.ref a0)])) rfl rfl (hb hby d5_40)) ?_
    show OwnEnds p.tables e below _ (s₁.setTop (mkF m 41 #[.val (.ref a0), .val (.ref a1), .val (.int (1 : Int32)), .val (.int (1 : Int32)), .val (.int (1 : Int32))] [(.int (Int32.ofNat ev)), (.ref a0)]))
    refine own_via (fun t k => XS.aloadN X0.here hx rfl (hb hby d5_41) rfl rfl k) ?_
    show OwnEnds p.tables e below _ (s₁.setTop (mkF m 42 #[.val (.ref a0), .val (.ref a1), .val (.int (1 : Int32)), .val (.int (1 : Int32)), .val (.int (1 : Int32))] [(.ref a0), (.int (Int32.ofNat ev)), (.ref a0)]))
    refine own_via (fun t k => XS.aloadN X0.here hx rfl (hb hby d5_42) rfl rfl k) ?_
    show OwnEnds p.tables e below _ (s₁.setTop (mkF m 43 #[.val (.ref a0), .val (.ref a1), .val (.int (1 : Int32)), .val (.int (1 : Int32)), .val (.int (1 : Int32))] [(.ref a1), (.ref a0), (.int (Int32.ofNat ev)), (.ref a0)]))
    refine own_via (fun t k => XS.iconst X0.here hx rfl (hb hby d5_43) k) ?_
    show OwnEnds p.tables e below _ (s₁.setTop (mkF m 44 #[.val (.ref a0), .val (.ref a1), .val (.int (1 : Int32)), .val (.int (1 : Int32)), .val (.int (1 : Int32))] [(.int (0 : Int32)), (.ref a1), (.ref a0), (.int (Int32.ofNat ev)), (.ref a0)]))
    refine own_via (own_ldI X0 hx hZ e0 A_a1 (v := (.int (Int32.ofNat ev))) 0 rfl rfl (g := (mkF m 44 #[.val (.ref a0), .val (.ref a1), .val (.int (1 : Int32)), .val (.int (1 : Int32)), .val (.int (1 : Int32))] [(.int (0 : Int32)), (.ref a1), (.ref a0), (.int (Int32.ofNat ev)), (.ref a0)])) rfl rfl (hb hby d5_44)) ?_
    show OwnEnds p.tables e below _ (s₁.setTop (mkF m 45 #[.val (.ref a0), .val (.ref a1), .val (.int (1 : Int32)), .val (.int (1 : Int32)), .val (.int (1 : Int32))] [(.int (Int32.ofNat ev)), (.ref a0), (.int (Int32.ofNat ev)), (.ref a0)]))
    refine own_via (own_ldI X0 hx hZ e0 A_a0 (v := (.int (ex.getD ev 0))) ev (own_ofN (by omega)) (own_iv_get (by omega)) (g := (mkF m 45 #[.val (.ref a0), .val (.ref a1), .val (.int (1 : Int32)), .val (.int (1 : Int32)), .val (.int (1 : Int32))] [(.int (Int32.ofNat ev)), (.ref a0), (.int (Int32.ofNat ev)), (.ref a0)])) rfl rfl (hb hby d5_45)) ?_
    show OwnEnds p.tables e below _ (s₁.setTop (mkF m 46 #[.val (.ref a0), .val (.ref a1), .val (.int (1 : Int32)), .val (.int (1 : Int32)), .val (.int (1 : Int32))] [(.int (ex.getD ev 0)), (.int (Int32.ofNat ev)), (.ref a0)]))
    refine own_via (fun t k => XS.iconst X0.here hx rfl (hb hby d5_46) k) ?_
    show OwnEnds p.tables e below _ (s₁.setTop (mkF m 47 #[.val (.ref a0), .val (.ref a1), .val (.int (1 : Int32)), .val (.int (1 : Int32)), .val (.int (1 : Int32))] [(.int (1 : Int32)), (.int (ex.getD ev 0)), (.int (Int32.ofNat ev)), (.ref a0)]))
    refine own_via (fun t k => XS.iadd X0.here hx rfl (hb hby d5_47) rfl k) ?_
    show OwnEnds p.tables e below _ (s₁.setTop (mkF m 48 #[.val (.ref a0), .val (.ref a1), .val (.int (1 : Int32)), .val (.int (1 : Int32)), .val (.int (1 : Int32))] [(.int ((ex.getD ev 0) + (1 : Int32))), (.int (Int32.ofNat ev)), (.ref a0)]))
    obtain ⟨T24, h24, X24, e24, W24, AA24, st24⟩ := own_stI X0 hx hZ e0 A_a0 ev (own_ofN (by omega)) (by rw [own_iv_len]; omega) (g := (mkF m 48 #[.val (.ref a0), .val (.ref a1), .val (.int (1 : Int32)), .val (.int (1 : Int32)), .val (.int (1 : Int32))] [(.int ((ex.getD ev 0) + (1 : Int32))), (.int (Int32.ofNat ev)), (.ref a0)])) rfl rfl (hb hby d5_48)
    replace A_a1 := A_a1.other W24 (Ne.symm ne_0)
    replace K0 := K0.wr W24 (Or.inl (List.mem_of_getElem? (i := 0) rfl))
    have Zs_W24 : n0 ≤ _ := Nat.le_trans Z0 (Keep.of_wr W24).1
    replace A_a0 : AL Z h24 a0 .int ((own_iv ex).set ev (.int ((ex.getD ev 0) + (1 : Int32)))) := AA24
    have N24 := Fr.snoc X24 N0 g_a0
    refine own_via st24 ?_
    show OwnEnds p.tables e below _ (T24.setTop (mkF m 49 #[.val (.ref a0), .val (.ref a1), .val (.int (1 : Int32)), .val (.int (1 : Int32)), .val (.int (1 : Int32))] []))
    rw [own_iv_set] at A_a0
    refine own_retV X24 hx Bd.returns hlk (hb hby d5_49) ?_ (by decide) (by decide)
    rw [e24]
    exact ⟨rfl, N24, K0, A_a0, A_a1⟩
theorem own_push_len (r : List Int32 × Nat × Bool) (d i : Bool) : (own_push r d i).1.length = r.1.length := by
  unfold own_push; split
  · split <;> simp
  · rfl
theorem own_push_ev (r : List Int32 × Nat × Bool) (d i : Bool) : (own_push r d i).2.1 ≤ r.2.1 + 1 := by
  unfold own_push; split
  · split
    · exact Nat.le_succ _
    · exact Nat.le_refl _
  · exact Nat.le_succ _
theorem own_six {xs : List Int32} (h : xs.length = 6) : ∃ x0 x1 x2 x3 x4 x5, xs = [x0, x1, x2, x3, x4, x5] := by
  match xs, h with
  | [x0, x1, x2, x3, x4, x5], _ => exact ⟨x0, x1, x2, x3, x4, x5, rfl⟩
theorem own_bitd {a x y : Int32} {b : Bool} (h : a = if x < y then 1 else 0) (hb : b = decide (x < y)) : a = own_bit b := by
  rw [h, hb]; by_cases q : x < y <;> simp [q, own_bit]
theorem own_biti {a f t j : Int32} {b : Bool} {fN tN jN : Nat} (h : a = if j < f then 0 else if j < t then 1 else 0) (hf : f.toInt = fN) (ht : t.toInt = tN) (hj : j.toInt = jN) (hb : b = decide (fN ≤ jN ∧ jN < tN)) : a = own_bit b := by
  simp only [Int32.lt_iff_toInt_lt, hf, ht, hj] at h
  rw [h, hb]
  by_cases q1 : (jN : Int) < fN
  · have q3 : ¬ (fN ≤ jN ∧ jN < tN) := by omega
    simp only [q1, if_true, q3, decide_false, own_bit, Bool.false_eq_true, if_false]
  · by_cases q2 : (jN : Int) < tN
    · have q3 : (fN ≤ jN ∧ jN < tN) := by omega
      simp only [q1, q2, if_true, q3, decide_true, own_bit, if_false, and_self]
    · have q3 : ¬ (fN ≤ jN ∧ jN < tN) := by omega
      simp only [q1, q2, q3, decide_false, own_bit, Bool.false_eq_true, if_false]
theorem own_imin (a b : Int32) : (if a < b then a else b).toInt = min a.toInt b.toInt := by
  by_cases q : a < b
  · have := Int32.lt_iff_toInt_lt.mp q; rw [if_pos q]; omega
  · have : ¬ a.toInt < b.toInt := fun z => q (Int32.lt_iff_toInt_lt.mpr z)
    rw [if_neg q]; omega
theorem own_imax (a b : Int32) : (if b < a then a else b).toInt = max a.toInt b.toInt := by
  by_cases q : b < a
  · have := Int32.lt_iff_toInt_lt.mp q; rw [if_pos q]; omega
  · have : ¬ b.toInt < a.toInt := fun z => q (Int32.lt_iff_toInt_lt.mpr z)
    rw [if_neg q]; omega
theorem own_minI (x y : Int32) : (own_min x y).toInt = min y.toInt x.toInt := own_imin y x
theorem own_maxI (x y : Int32) : (own_max x y).toInt = max y.toInt x.toInt := own_imax y x
theorem own_mmeq {ys : List Int32} {k wd : Nat} {wv x0 x1 x2 x3 mn mx : Int32} (hwd : wv.toInt = wd) (h1 : 1 ≤ wd) (h4 : wd ≤ 4) (e0 : x0 = ys.getD k 0 &&& 255) (e1 : x1 = if 1 < wv then ys.getD (k + 1) 0 &&& 255 else x0) (e2 : x2 = if 2 < wv then ys.getD (k + 2) 0 &&& 255 else x0) (e3 : x3 = if 3 < wv then ys.getD (k + 3) 0 &&& 255 else x0)
    (hmn : mn = own_min (own_min x0 x1) (own_min x2 x3)) (hmx : mx = own_max (own_max x0 x1) (own_max x2 x3)) : own_mm (own_gs ys k wd) 255 0 = (mn, mx) := by
  have i1 : (1 : Int32).toInt = 1 := rfl
  have i2 : (2 : Int32).toInt = 2 := rfl
  have i3 : (3 : Int32).toInt = 3 := rfl
  have i255 : (255 : Int32).toInt = 255 := rfl
  have i0 : (0 : Int32).toInt = 0 := rfl
  simp only [Int32.lt_iff_toInt_lt, hwd, i1, i2, i3] at e1 e2 e3
  have b0 := own_gb e0
  have hw : wd = 1 ∨ wd = 2 ∨ wd = 3 ∨ wd = 4 := by omega
  rcases hw with rfl | rfl | rfl | rfl
  · simp at e1 e2 e3
    subst e1 e2 e3
    simp only [own_gs, own_mm, ← e0]
    apply Prod.ext <;> apply Int32.toInt_inj.mp
    · rw [hmn, own_minI, own_minI, own_imin]; omega
    · rw [hmx, own_maxI, own_maxI, own_imax]; omega
  · simp at e1 e2 e3
    subst e2 e3
    have b1 := own_gb e1
    simp only [own_gs, own_mm]
    rw [← e0, List.getD_eq_getElem?_getD, ← e1]
    apply Prod.ext <;> apply Int32.toInt_inj.mp
    · rw [hmn, own_minI, own_minI, own_minI, own_imin, own_imin]; omega
    · rw [hmx, own_maxI, own_maxI, own_maxI, own_imax, own_imax]; omega
  · simp at e1 e2 e3
    subst e3
    have b1 := own_gb e1
    have b2 := own_gb e2
    simp only [own_gs, own_mm]
    rw [← e0, List.getD_eq_getElem?_getD (i := k + 1), ← e1, List.getD_eq_getElem?_getD (i := k + 1 + 1), ← e2]
    apply Prod.ext <;> apply Int32.toInt_inj.mp
    · rw [hmn, own_minI, own_minI, own_minI, own_imin, own_imin, own_imin]; omega
    · rw [hmx, own_maxI, own_maxI, own_maxI, own_imax, own_imax, own_imax]; omega
  · simp at e1 e2 e3
    have b1 := own_gb e1
    have b2 := own_gb e2
    have b3 := own_gb e3
    simp only [own_gs, own_mm]
    rw [← e0, List.getD_eq_getElem?_getD (i := k + 1), ← e1, List.getD_eq_getElem?_getD (i := k + 1 + 1), ← e2, List.getD_eq_getElem?_getD (i := k + 1 + 1 + 1), ← e3]
    apply Prod.ext <;> apply Int32.toInt_inj.mp
    · rw [hmn, own_minI, own_minI, own_minI, own_imin, own_imin, own_imin, own_imin]; omega
    · rw [hmx, own_maxI, own_maxI, own_maxI, own_imax, own_imax, own_imax, own_imax]; omega
theorem own_dseq {ys : List Int32} {k wd f t : Nat} {wv tw x0 x1 x2 x3 : Int32} {d0 d1 d2 d3 : Bool} (hwd : wv.toInt = wd) (h1 : 1 ≤ wd) (h4 : wd ≤ 4) (hft : f < t) (htw : t ≤ wd) (e0 : x0 = ys.getD k 0 &&& 255) (e1 : x1 = if 1 < wv then ys.getD (k + 1) 0 &&& 255 else x0) (e2 : x2 = if 2 < wv then ys.getD (k + 2) 0 &&& 255 else x0) (e3 : x3 = if 3 < wv then ys.getD (k + 3) 0 &&& 255 else x0)
    (hd0 : d0 = decide (x0 < tw)) (hd1 : d1 = decide (x1 < tw)) (hd2 : d2 = decide (x2 < tw)) (hd3 : d3 = decide (x3 < tw)) : own_ds ys tw (k + f) (t - f) = ([d0, d1, d2, d3].drop f).take (t - f) := by
  have i1 : (1 : Int32).toInt = 1 := rfl
  have i2 : (2 : Int32).toInt = 2 := rfl
  have i3 : (3 : Int32).toInt = 3 := rfl
  simp only [Int32.lt_iff_toInt_lt, hwd, i1, i2, i3] at e1 e2 e3
  have q1 : 1 < t → d1 = decide ((ys.getD (k + 1) 0 &&& 255) < tw) := fun q => by rw [hd1, e1, if_pos (by omega)]
  have q2 : 2 < t → d2 = decide ((ys.getD (k + 2) 0 &&& 255) < tw) := fun q => by rw [hd2, e2, if_pos (by omega)]
  have q3 : 3 < t → d3 = decide ((ys.getD (k + 3) 0 &&& 255) < tw) := fun q => by rw [hd3, e3, if_pos (by omega)]
  rw [e0] at hd0
  have ht : t = 1 ∨ t = 2 ∨ t = 3 ∨ t = 4 := by omega
  have hf : f = 0 ∨ f = 1 ∨ f = 2 ∨ f = 3 := by omega
  rcases ht with rfl | rfl | rfl | rfl <;> rcases hf with rfl | rfl | rfl | rfl <;> first | omega | (
    simp only [Nat.lt_irrefl, Nat.reduceLT, forall_const, false_implies, true_implies] at q1 q2 q3
    simp only [own_ds, Nat.reduceSub, List.drop, List.take, Nat.add_zero, Nat.add_assoc, Nat.reduceAdd]
    first | rw [hd0] | skip
    first | rw [q1] | skip
    first | rw [q2] | skip
    first | rw [q3] | skip)
theorem own_rng {wv ov fv tw a b d : Int32} {z : Int32} (h_w : wv = 1 + (z &&& 3)) (h_o : ov = (a &&& 7) % (6 - wv)) (h_f : fv = (b &&& 7) % wv) (h_t : tw = fv + 1 + (d &&& 7) % (wv - fv)) :
    ∃ wd k f t : Nat, wv.toInt = wd ∧ ov.toInt = k ∧ fv.toInt = f ∧ tw.toInt = t ∧ 1 ≤ wd ∧ wd ≤ 4 ∧ k + wd ≤ 5 ∧ f < t ∧ t ≤ wd := by
  have c1 := c_and z 3 (by decide)
  have c2 := c_and a 7 (by decide)
  have c3 := c_and b 7 (by decide)
  have c4 := c_and d 7 (by decide)
  have i1 : (1 : Int32).toInt = 1 := rfl
  have i3 : (3 : Int32).toInt = 3 := rfl
  have i6 : (6 : Int32).toInt = 6 := rfl
  have w1 := c_iadd 1 (z &&& 3)
  rw [← h_w] at w1
  have bw1 := wv.toInt_lt
  have bw2 := wv.le_toInt
  have hw : 1 ≤ wv.toInt ∧ wv.toInt ≤ 4 := by omega
  have s1 := c_isub 6 wv
  have bs1 := (6 - wv).toInt_lt
  have bs2 := (6 - wv).le_toInt
  have hs : (6 - wv).toInt = 6 - wv.toInt := by omega
  have r1 := (c_iremV (a &&& 7) (6 - wv)).1 c2.1 (by omega)
  rw [← h_o] at r1
  have r2 := (c_iremV (b &&& 7) wv).1 c3.1 (by omega)
  rw [← h_f] at r2
  have s2 := c_isub wv fv
  have bs3 := (wv - fv).toInt_lt
  have bs4 := (wv - fv).le_toInt
  have hs2 : (wv - fv).toInt = wv.toInt - fv.toInt := by omega
  have r3 := (c_iremV (d &&& 7) (wv - fv)).1 c4.1 (by omega)
  have a1 := c_iadd fv 1
  have ba1 := (fv + 1).toInt_lt
  have ba2 := (fv + 1).le_toInt
  have a2 := c_iadd (fv + 1) ((d &&& 7) % (wv - fv))
  rw [← h_t] at a2
  have bt1 := tw.toInt_lt
  have bt2 := tw.le_toInt
  refine ⟨wv.toInt.toNat, ov.toInt.toNat, fv.toInt.toNat, tw.toInt.toNat, ?_⟩
  omega
theorem own_nzw {wv z : Int32} (h_w : wv = 1 + (z &&& 3)) : 1 ≤ wv.toInt ∧ wv.toInt ≤ 4 := by
  have c1 := c_and z 3 (by decide)
  have i1 : (1 : Int32).toInt = 1 := rfl
  have i3 : (3 : Int32).toInt = 3 := rfl
  have w1 := c_iadd 1 (z &&& 3)
  rw [← h_w] at w1
  have bw1 := wv.toInt_lt
  have bw2 := wv.le_toInt
  omega
theorem own_nz1 {wv z : Int32} (h_w : wv = 1 + (z &&& 3)) : wv ≠ 0 := fun q => by
  have := own_nzw h_w
  rw [q] at this
  exact absurd this.1 (by decide)
theorem own_nz6 {wv z : Int32} (h_w : wv = 1 + (z &&& 3)) : 6 - wv ≠ 0 := fun q => by
  have := own_nzw h_w
  have s1 := c_isub 6 wv
  have i6 : (6 : Int32).toInt = 6 := rfl
  have i0 : (0 : Int32).toInt = 0 := rfl
  rw [q] at s1
  omega
theorem own_nzf {wv fv z b : Int32} (h_w : wv = 1 + (z &&& 3)) (h_f : fv = (b &&& 7) % wv) : wv - fv ≠ 0 := fun q => by
  have hw := own_nzw h_w
  have c3 := c_and b 7 (by decide)
  have r2 := (c_iremV (b &&& 7) wv).1 c3.1 (by omega)
  rw [← h_f] at r2
  have s1 := c_isub wv fv
  have i0 : (0 : Int32).toInt = 0 := rfl
  rw [q] at s1
  omega
theorem own_lN {x y : Int32} {a b : Nat} (h : x < y) (hx : x.toInt = a) (hy : y.toInt = b) : a < b := by
  rw [Int32.lt_iff_toInt_lt] at h; omega
theorem own_ofI {x : Int32} {n : Nat} (h : x.toInt = n) (hn : n ≤ 4) : x = Int32.ofNat n := Int32.toInt_inj.mp (by rw [h, own_ofN (by omega)])
theorem d6_0 : decode method_4_code 0 = .ok (.aload_n 0, 1) := by decide +kernel
theorem d6_1 : decode method_4_code 1 = .ok (.arraylength, 1) := by decide +kernel
theorem d6_2 : decode method_4_code 2 = .ok (.iload_n 2, 1) := by decide +kernel
theorem d6_3 : decode method_4_code 3 = .ok (.if_icmp .eq 5, 3) := by decide +kernel
theorem d6_6 : decode method_4_code 6 = .ok (.iconst 0, 1) := by decide +kernel
theorem d6_7 : decode method_4_code 7 = .ok (.ireturn, 1) := by decide +kernel
theorem d6_8 : decode method_4_code 8 = .ok (.iload_n 2, 1) := by decide +kernel
theorem d6_9 : decode method_4_code 9 = .ok (.ifCond .le 12, 3) := by decide +kernel
theorem d6_12 : decode method_4_code 12 = .ok (.aload_n 0, 1) := by decide +kernel
theorem d6_13 : decode method_4_code 13 = .ok (.iconst 0, 1) := by decide +kernel
theorem d6_14 : decode method_4_code 14 = .ok (.iaload, 1) := by decide +kernel
theorem d6_15 : decode method_4_code 15 = .ok (.aload_n 1, 1) := by decide +kernel
theorem d6_16 : decode method_4_code 16 = .ok (.iconst 0, 1) := by decide +kernel
theorem d6_17 : decode method_4_code 17 = .ok (.iaload, 1) := by decide +kernel
theorem d6_18 : decode method_4_code 18 = .ok (.if_icmp .ne 77, 3) := by decide +kernel
theorem d6_21 : decode method_4_code 21 = .ok (.iload_n 2, 1) := by decide +kernel
theorem d6_22 : decode method_4_code 22 = .ok (.iconst 1, 1) := by decide +kernel
theorem d6_23 : decode method_4_code 23 = .ok (.if_icmp .le 12, 3) := by decide +kernel
theorem d6_26 : decode method_4_code 26 = .ok (.aload_n 0, 1) := by decide +kernel
theorem d6_27 : decode method_4_code 27 = .ok (.iconst 1, 1) := by decide +kernel
theorem d6_28 : decode method_4_code 28 = .ok (.iaload, 1) := by decide +kernel
theorem d6_29 : decode method_4_code 29 = .ok (.aload_n 1, 1) := by decide +kernel
theorem d6_30 : decode method_4_code 30 = .ok (.iconst 1, 1) := by decide +kernel
theorem d6_31 : decode method_4_code 31 = .ok (.iaload, 1) := by decide +kernel
theorem d6_32 : decode method_4_code 32 = .ok (.if_icmp .ne 63, 3) := by decide +kernel
theorem d6_35 : decode method_4_code 35 = .ok (.iload_n 2, 1) := by decide +kernel
theorem d6_36 : decode method_4_code 36 = .ok (.iconst 2, 1) := by decide +kernel
theorem d6_37 : decode method_4_code 37 = .ok (.if_icmp .le 12, 3) := by decide +kernel
theorem d6_40 : decode method_4_code 40 = .ok (.aload_n 0, 1) := by decide +kernel
theorem d6_41 : decode method_4_code 41 = .ok (.iconst 2, 1) := by decide +kernel
theorem d6_42 : decode method_4_code 42 = .ok (.iaload, 1) := by decide +kernel
theorem d6_43 : decode method_4_code 43 = .ok (.aload_n 1, 1) := by decide +kernel
theorem d6_44 : decode method_4_code 44 = .ok (.iconst 2, 1) := by decide +kernel
theorem d6_45 : decode method_4_code 45 = .ok (.iaload, 1) := by decide +kernel
theorem d6_46 : decode method_4_code 46 = .ok (.if_icmp .ne 49, 3) := by decide +kernel
theorem d6_49 : decode method_4_code 49 = .ok (.iload_n 2, 1) := by decide +kernel
theorem d6_50 : decode method_4_code 50 = .ok (.iconst 3, 1) := by decide +kernel
theorem d6_51 : decode method_4_code 51 = .ok (.if_icmp .le 12, 3) := by decide +kernel
theorem d6_54 : decode method_4_code 54 = .ok (.aload_n 0, 1) := by decide +kernel
theorem d6_55 : decode method_4_code 55 = .ok (.iconst 3, 1) := by decide +kernel
theorem d6_56 : decode method_4_code 56 = .ok (.iaload, 1) := by decide +kernel
theorem d6_57 : decode method_4_code 57 = .ok (.aload_n 1, 1) := by decide +kernel
theorem d6_58 : decode method_4_code 58 = .ok (.iconst 3, 1) := by decide +kernel
theorem d6_59 : decode method_4_code 59 = .ok (.iaload, 1) := by decide +kernel
theorem d6_60 : decode method_4_code 60 = .ok (.if_icmp .ne 35, 3) := by decide +kernel
theorem d6_63 : decode method_4_code 63 = .ok (.iload_n 2, 1) := by decide +kernel
theorem d6_64 : decode method_4_code 64 = .ok (.iconst 4, 1) := by decide +kernel
theorem d6_65 : decode method_4_code 65 = .ok (.if_icmp .le 12, 3) := by decide +kernel
theorem d6_68 : decode method_4_code 68 = .ok (.aload_n 0, 1) := by decide +kernel
theorem d6_69 : decode method_4_code 69 = .ok (.iconst 4, 1) := by decide +kernel
theorem d6_70 : decode method_4_code 70 = .ok (.iaload, 1) := by decide +kernel
theorem d6_71 : decode method_4_code 71 = .ok (.aload_n 1, 1) := by decide +kernel
theorem d6_72 : decode method_4_code 72 = .ok (.iconst 4, 1) := by decide +kernel
theorem d6_73 : decode method_4_code 73 = .ok (.iaload, 1) := by decide +kernel
theorem d6_74 : decode method_4_code 74 = .ok (.if_icmp .ne 21, 3) := by decide +kernel
theorem d6_77 : decode method_4_code 77 = .ok (.iload_n 2, 1) := by decide +kernel
theorem d6_78 : decode method_4_code 78 = .ok (.iconst 5, 1) := by decide +kernel
theorem d6_79 : decode method_4_code 79 = .ok (.if_icmp .le 12, 3) := by decide +kernel
theorem d6_82 : decode method_4_code 82 = .ok (.aload_n 0, 1) := by decide +kernel
theorem d6_83 : decode method_4_code 83 = .ok (.iconst 5, 1) := by decide +kernel
theorem d6_84 : decode method_4_code 84 = .ok (.iaload, 1) := by decide +kernel
theorem d6_85 : decode method_4_code 85 = .ok (.aload_n 1, 1) := by decide +kernel
theorem d6_86 : decode method_4_code 86 = .ok (.iconst 5, 1) := by decide +kernel
theorem d6_87 : decode method_4_code 87 = .ok (.iaload, 1) := by decide +kernel
theorem d6_88 : decode method_4_code 88 = .ok (.if_icmp .ne 7, 3) := by decide +kernel
theorem d6_91 : decode method_4_code 91 = .ok (.iconst 1, 1) := by decide +kernel
theorem d6_92 : decode method_4_code 92 = .ok (.goto 4, 3) := by decide +kernel
theorem d6_95 : decode method_4_code 95 = .ok (.iconst 0, 1) := by decide +kernel
theorem d6_96 : decode method_4_code 96 = .ok (.ireturn, 1) := by decide +kernel
theorem ef_6 (m : MethodId) (a0 : Addr) (a1 : Addr) : entryFrame m #[(.ref a0), (.ref a1), (.int (Int32.ofNat n))] 3 = mkF m 0 #[.val (.ref a0), .val (.ref a1), .val (.int (Int32.ofNat n))] [] := by first | (simp [entryFrame, mkF, argsToLocals, Value.category]; done) | rfl
def Q6 (Z : State) (a0 : Addr) (a1 : Addr) (GL : List Int32) (XL6 : List Int32) (n : Nat) (h0 : Heap) (n0 : Nat) (v : Option Value) (h : Heap) (L : List Loc) : Prop := v = some (.int 1) ∧ Fr n0 L ∧ h = h0
set_option maxRecDepth 65536 in
set_option maxHeartbeats 40000000 in
theorem rm6 (l : Launch) (Z : State) (aw : Array Value) (hw : ∀ d ∈ tables_1, d.before aw Z = true) (ws : List Jvm.Cond) (a0 : Addr) (a1 : Addr) (GL : List Int32) (XL6 : List Int32) (n : Nat) (h0 : Heap) (n0 : Nat) (Z0 : n0 ≤ h0.size) (A_a0 : AL Z h0 a0 .int (own_iv GL)) (A_a1 : AL Z h0 a1 .int (own_iv XL6)) (hG : GL = XL6.take n) (hX : XL6.length = 6) (hn1 : 1 ≤ n) (hn6 : n ≤ 6) :
    MetFree l (⟨"com/example/shelfmark/shelfmark/ScanlineElementsPinLaw", "same", "([I[II)Z"⟩ : MethodName) (head1 (Jvm.Cond.code (⟨"com/example/shelfmark/shelfmark/ScanlineElementsPinLaw", "same", "([I[II)Z"⟩ : MethodName) method_4_code 3 (some .boolean) :: ws) ({ frames := 0, cells := 0, slots := 0, locals := 0 } : Room)) (fun a U => a = #[(.ref a0), (.ref a1), (.int (Int32.ofNat n))] ∧ Z.Warmed39 U.vm ∧ U.heap = h0) (fun _ _ _ _ _ => True) (fun _ U o U' => ∃ v L, o = .returned v ∧ Q6 Z a0 a1 GL XL6 n h0 n0 v U'.heap L ∧ FrameEnd U o U' L ({ frames := 0, cells := 0, slots := 0, locals := 0 } : Room).cells ({ frames := 0, cells := 0, slots := 0, locals := 0 } : Room).slots) := by
  refine MetFree.of_bodySF (plainFor_of_name pn_1) hisR ?_
  intro p e s m args below meth c s₁ Bd hml0 hP hK
  obtain ⟨rfl, hZ, hh⟩ := hP
  have hx := Bd.exec
  have hby := Bd.bytes
  have hml : c.maxLocals = 3 := hml0
  have hown : s.vm.findClass "com/example/shelfmark/shelfmark/ScanlineElementsPinLaw" = some m.cls := findClass_of_methodNamed Bd.named
  have hnm := (name_of_methodNamed Bd.named Bd.method).1
  have hlk : meth.locks = false := Bd.notSynchronized
  have X0 : Stand p l e ({ frames := 0, cells := 0, slots := 0, locals := 0 } : Room) s m #[(.ref a0), (.ref a1), (.int (Int32.ofNat n))] below meth c s₁ [] 0 0 := Stand.of_body Bd
  have e0 : s₁.heap = h0 := by rw [← hh, Bd.state]; rfl
  have N0 := Fr.nil n0
  show OwnEnds p.tables e below (OwnQ s ({ frames := 0, cells := 0, slots := 0, locals := 0 } : Room).cells ({ frames := 0, cells := 0, slots := 0, locals := 0 } : Room).slots (Q6 Z a0 a1 GL XL6 n h0 n0)) (s₁.setTop (entryFrame m #[(.ref a0), (.ref a1), (.int (Int32.ofNat n))] 3))
  refine own_via (fun t k => castTop (ef_6 m a0 a1) k) ?_
  show OwnEnds p.tables e below _ (s₁.setTop (mkF m 0 #[.val (.ref a0), .val (.ref a1), .val (.int (Int32.ofNat n))] []))
  obtain ⟨x0, x1, x2, x3, x4, x5, rfl⟩ := own_six hX
  have hn' : n = 1 ∨ n = 2 ∨ n = 3 ∨ n = 4 ∨ n = 5 ∨ n = 6 := by omega
  rcases hn' with rfl | rfl | rfl | rfl | rfl | rfl
  · skip
    subst hG
    have A_a0 : AL Z h0 a0 .int [(.int x0)] := A_a0
    have A_a1 : AL Z h0 a1 .int [(.int x0), (.int x1), (.int x2), (.int x3), (.int x4), (.int x5)] := A_a1
    show OwnEnds p.tables e below _ (s₁.setTop (mkF m 0 #[.val (.ref a0), .val (.ref a1), .val (.int (1 : Int32))] []))
    refine own_via (fun t k => XS.aloadN X0.here hx rfl (hb hby d6_0) rfl rfl k) ?_
    show OwnEnds p.tables e below _ (s₁.setTop (mkF m 1 #[.val (.ref a0), .val (.ref a1), .val (.int (1 : Int32))] [(.ref a0)]))
    refine own_via (own_len X0 hx hZ e0 A_a0 (z := (1 : Int32)) rfl (g := (mkF m 1 #[.val (.ref a0), .val (.ref a1), .val (.int (1 : Int32))] [(.ref a0)])) rfl rfl (hb hby d6_1)) ?_
    show OwnEnds p.tables e below _ (s₁.setTop (mkF m 2 #[.val (.ref a0), .val (.ref a1), .val (.int (1 : Int32))] [(.int (1 : Int32))]))
    refine own_via (fun t k => XS.iloadN X0.here hx rfl (hb hby d6_2) rfl k) ?_
    show OwnEnds p.tables e below _ (s₁.setTop (mkF m 3 #[.val (.ref a0), .val (.ref a1), .val (.int (1 : Int32))] [(.int (1 : Int32)), (.int (1 : Int32))]))
    have hc3_1 : (1 : Int32) = (1 : Int32) := by decide
    refine own_via (fun t k => XS.icmpYes X0.here hx rfl (pc0 := 3) (pc' := 8) rfl (hb hby d6_3) rfl (teq hc3_1).1 (by decide) (by decide) k) ?_
    show OwnEnds p.tables e below _ (s₁.setTop (mkF m 8 #[.val (.ref a0), .val (.ref a1), .val (.int (1 : Int32))] []))
    refine own_via (fun t k => XS.iloadN X0.here hx rfl (hb hby d6_8) rfl k) ?_
    show OwnEnds p.tables e below _ (s₁.setTop (mkF m 9 #[.val (.ref a0), .val (.ref a1), .val (.int (1 : Int32))] [(.int (1 : Int32))]))
    have hc9_2 : (0 : Int32) < (1 : Int32) := by decide
    refine own_via (fun t k => XS.ifNo X0.here hx rfl (hb hby d6_9) rfl ((if0 _ _).trans (tlt hc9_2).2.2.2) k) ?_
    show OwnEnds p.tables e below _ (s₁.setTop (mkF m 12 #[.val (.ref a0), .val (.ref a1), .val (.int (1 : Int32))] []))
    refine own_via (fun t k => XS.aloadN X0.here hx rfl (hb hby d6_12) rfl rfl k) ?_
    show OwnEnds p.tables e below _ (s₁.setTop (mkF m 13 #[.val (.ref a0), .val (.ref a1), .val (.int (1 : Int32))] [(.ref a0)]))
    refine own_via (fun t k => XS.iconst X0.here hx rfl (hb hby d6_13) k) ?_
    show OwnEnds p.tables e below _ (s₁.setTop (mkF m 14 #[.val (.ref a0), .val (.ref a1), .val (.int (1 : Int32))] [(.int (0 : Int32)), (.ref a0)]))
    refine own_via (own_ldI X0 hx hZ e0 A_a0 (v := (.int x0)) 0 rfl rfl (g := (mkF m 14 #[.val (.ref a0), .val (.ref a1), .val (.int (1 : Int32))] [(.int (0 : Int32)), (.ref a0)])) rfl rfl (hb hby d6_14)) ?_
    show OwnEnds p.tables e below _ (s₁.setTop (mkF m 15 #[.val (.ref a0), .val (.ref a1), .val (.int (1 : Int32))] [(.int x0)]))
    refine own_via (fun t k => XS.aloadN X0.here hx rfl (hb hby d6_15) rfl rfl k) ?_
    show OwnEnds p.tables e below _ (s₁.setTop (mkF m 16 #[.val (.ref a0), .val (.ref a1), .val (.int (1 : Int32))] [(.ref a1), (.int x0)]))
    refine own_via (fun t k => XS.iconst X0.here hx rfl (hb hby d6_16) k) ?_
    show OwnEnds p.tables e below _ (s₁.setTop (mkF m 17 #[.val (.ref a0), .val (.ref a1), .val (.int (1 : Int32))] [(.int (0 : Int32)), (.ref a1), (.int x0)]))
    refine own_via (own_ldI X0 hx hZ e0 A_a1 (v := (.int x0)) 0 rfl rfl (g := (mkF m 17 #[.val (.ref a0), .val (.ref a1), .val (.int (1 : Int32))] [(.int (0 : Int32)), (.ref a1), (.int x0)])) rfl rfl (hb hby d6_17)) ?_
    show OwnEnds p.tables e below _ (s₁.setTop (mkF m 18 #[.val (.ref a0), .val (.ref a1), .val (.int (1 : Int32))] [(.int x0), (.int x0)]))
    have hc18_3 : x0 = x0 := rfl
    refine own_via (fun t k => XS.icmpNo X0.here hx rfl (hb hby d6_18) rfl (teq hc18_3).2 k) ?_
    show OwnEnds p.tables e below _ (s₁.setTop (mkF m 21 #[.val (.ref a0), .val (.ref a1), .val (.int (1 : Int32))] []))
    refine own_via (fun t k => XS.iloadN X0.here hx rfl (hb hby d6_21) rfl k) ?_
    show OwnEnds p.tables e below _ (s₁.setTop (mkF m 22 #[.val (.ref a0), .val (.ref a1), .val (.int (1 : Int32))] [(.int (1 : Int32))]))
    refine own_via (fun t k => XS.iconst X0.here hx rfl (hb hby d6_22) k) ?_
    show OwnEnds p.tables e below _ (s₁.setTop (mkF m 23 #[.val (.ref a0), .val (.ref a1), .val (.int (1 : Int32))] [(.int (1 : Int32)), (.int (1 : Int32))]))
    have hc23_4 : ¬ ((1 : Int32) < (1 : Int32)) := by decide
    refine own_via (fun t k => XS.icmpYes X0.here hx rfl (pc0 := 23) (pc' := 35) rfl (hb hby d6_23) rfl (flt hc23_4).2.2.2 (by decide) (by decide) k) ?_
    show OwnEnds p.tables e below _ (s₁.setTop (mkF m 35 #[.val (.ref a0), .val (.ref a1), .val (.int (1 : Int32))] []))
    refine own_via (fun t k => XS.iloadN X0.here hx rfl (hb hby d6_35) rfl k) ?_
    show OwnEnds p.tables e below _ (s₁.setTop (mkF m 36 #[.val (.ref a0), .val (.ref a1), .val (.int (1 : Int32))] [(.int (1 : Int32))]))
    refine own_via (fun t k => XS.iconst X0.here hx rfl (hb hby d6_36) k) ?_
    show OwnEnds p.tables e below _ (s₁.setTop (mkF m 37 #[.val (.ref a0), .val (.ref a1), .val (.int (1 : Int32))] [(.int (2 : Int32)), (.int (1 : Int32))]))
    have hc37_5 : ¬ ((2 : Int32) < (1 : Int32)) := by decide
    refine own_via (fun t k => XS.icmpYes X0.here hx rfl (pc0 := 37) (pc' := 49) rfl (hb hby d6_37) rfl (flt hc37_5).2.2.2 (by decide) (by decide) k) ?_
    show OwnEnds p.tables e below _ (s₁.setTop (mkF m 49 #[.val (.ref a0), .val (.ref a1), .val (.int (1 : Int32))] []))
    refine own_via (fun t k => XS.iloadN X0.here hx rfl (hb hby d6_49) rfl k) ?_
    show OwnEnds p.tables e below _ (s₁.setTop (mkF m 50 #[.val (.ref a0), .val (.ref a1), .val (.int (1 : Int32))] [(.int (1 : Int32))]))
    refine own_via (fun t k => XS.iconst X0.here hx rfl (hb hby d6_50) k) ?_
    show OwnEnds p.tables e below _ (s₁.setTop (mkF m 51 #[.val (.ref a0), .val (.ref a1), .val (.int (1 : Int32))] [(.int (3 : Int32)), (.int (1 : Int32))]))
    have hc51_6 : ¬ ((3 : Int32) < (1 : Int32)) := by decide
    refine own_via (fun t k => XS.icmpYes X0.here hx rfl (pc0 := 51) (pc' := 63) rfl (hb hby d6_51) rfl (flt hc51_6).2.2.2 (by decide) (by decide) k) ?_
    show OwnEnds p.tables e below _ (s₁.setTop (mkF m 63 #[.val (.ref a0), .val (.ref a1), .val (.int (1 : Int32))] []))
    refine own_via (fun t k => XS.iloadN X0.here hx rfl (hb hby d6_63) rfl k) ?_
    show OwnEnds p.tables e below _ (s₁.setTop (mkF m 64 #[.val (.ref a0), .val (.ref a1), .val (.int (1 : Int32))] [(.int (1 : Int32))]))
    refine own_via (fun t k => XS.iconst X0.here hx rfl (hb hby d6_64) k) ?_
    show OwnEnds p.tables e below _ (s₁.setTop (mkF m 65 #[.val (.ref a0), .val (.ref a1), .val (.int (1 : Int32))] [(.int (4 : Int32)), (.int (1 : Int32))]))
    have hc65_7 : ¬ ((4 : Int32) < (1 : Int32)) := by decide
    refine own_via (fun t k => XS.icmpYes X0.here hx rfl (pc0 := 65) (pc' := 77) rfl (hb hby d6_65) rfl (flt hc65_7).2.2.2 (by decide) (by decide) k) ?_
    show OwnEnds p.tables e below _ (s₁.setTop (mkF m 77 #[.val (.ref a0), .val (.ref a1), .val (.int (1 : Int32))] []))
    refine own_via (fun t k => XS.iloadN X0.here hx rfl (hb hby d6_77) rfl k) ?_
    show OwnEnds p.tables e below _ (s₁.setTop (mkF m 78 #[.val (.ref a0), .val (.ref a1), .val (.int (1 : Int32))] [(.int (1 : Int32))]))
    refine own_via (fun t k => XS.iconst X0.here hx rfl (hb hby d6_78) k) ?_
    show OwnEnds p.tables e below _ (s₁.setTop (mkF m 79 #[.val (.ref a0), .val (.ref a1), .val (.int (1 : Int32))] [(.int (5 : Int32)), (.int (1 : Int32))]))
    have hc79_8 : ¬ ((5 : Int32) < (1 : Int32)) := by decide
    refine own_via (fun t k => XS.icmpYes X0.here hx rfl (pc0 := 79) (pc' := 91) rfl (hb hby d6_79) rfl (flt hc79_8).2.2.2 (by decide) (by decide) k) ?_
    show OwnEnds p.tables e below _ (s₁.setTop (mkF m 91 #[.val (.ref a0), .val (.ref a1), .val (.int (1 : Int32))] []))
    refine own_via (fun t k => XS.iconst X0.here hx rfl (hb hby d6_91) k) ?_
    show OwnEnds p.tables e below _ (s₁.setTop (mkF m 92 #[.val (.ref a0), .val (.ref a1), .val (.int (1 : Int32))] [(.int (1 : Int32))]))
    refine own_via (fun t k => XS.goto X0.here hx rfl (pc0 := 92) (pc' := 96) rfl (hb hby d6_92) (by decide) (by decide) k) ?_
    show OwnEnds p.tables e below _ (s₁.setTop (mkF m 96 #[.val (.ref a0), .val (.ref a1), .val (.int (1 : Int32))] [(.int (1 : Int32))]))
    refine own_retN (t := .boolean) X0 hx Bd.returns (by simp) hlk (hb hby d6_96) ?_ (by decide) (by decide)
    rw [e0]
    exact ⟨rfl, N0, rfl⟩
  · skip
    subst hG
    have A_a0 : AL Z h0 a0 .int [(.int x0), (.int x1)] := A_a0
    have A_a1 : AL Z h0 a1 .int [(.int x0), (.int x1), (.int x2), (.int x3), (.int x4), (.int x5)] := A_a1
    show OwnEnds p.tables e below _ (s₁.setTop (mkF m 0 #[.val (.ref a0), .val (.ref a1), .val (.int (2 : Int32))] []))
    refine own_via (fun t k => XS.aloadN X0.here hx rfl (hb hby d6_0) rfl rfl k) ?_
    show OwnEnds p.tables e below _ (s₁.setTop (mkF m 1 #[.val (.ref a0), .val (.ref a1), .val (.int (2 : Int32))] [(.ref a0)]))
    refine own_via (own_len X0 hx hZ e0 A_a0 (z := (2 : Int32)) rfl (g := (mkF m 1 #[.val (.ref a0), .val (.ref a1), .val (.int (2 : Int32))] [(.ref a0)])) rfl rfl (hb hby d6_1)) ?_
    show OwnEnds p.tables e below _ (s₁.setTop (mkF m 2 #[.val (.ref a0), .val (.ref a1), .val (.int (2 : Int32))] [(.int (2 : Int32))]))
    refine own_via (fun t k => XS.iloadN X0.here hx rfl (hb hby d6_2) rfl k) ?_
    show OwnEnds p.tables e below _ (s₁.setTop (mkF m 3 #[.val (.ref a0), .val (.ref a1), .val (.int (2 : Int32))] [(.int (2 : Int32)), (.int (2 : Int32))]))
    have hc3_9 : (2 : Int32) = (2 : Int32) := by decide
    refine own_via (fun t k => XS.icmpYes X0.here hx rfl (pc0 := 3) (pc' := 8) rfl (hb hby d6_3) rfl (teq hc3_9).1 (by decide) (by decide) k) ?_
    show OwnEnds p.tables e below _ (s₁.setTop (mkF m 8 #[.val (.ref a0), .val (.ref a1), .val (.int (2 : Int32))] []))
    refine own_via (fun t k => XS.iloadN X0.here hx rfl (hb hby d6_8) rfl k) ?_
    show OwnEnds p.tables e below _ (s₁.setTop (mkF m 9 #[.val (.ref a0), .val (.ref a1), .val (.int (2 : Int32))] [(.int (2 : Int32))]))
    have hc9_10 : (0 : Int32) < (2 : Int32) := by decide
    refine own_via (fun t k => XS.ifNo X0.here hx rfl (hb hby d6_9) rfl ((if0 _ _).trans (tlt hc9_10).2.2.2) k) ?_
    show OwnEnds p.tables e below _ (s₁.setTop (mkF m 12 #[.val (.ref a0), .val (.ref a1), .val (.int (2 : Int32))] []))
    refine own_via (fun t k => XS.aloadN X0.here hx rfl (hb hby d6_12) rfl rfl k) ?_
    show OwnEnds p.tables e below _ (s₁.setTop (mkF m 13 #[.val (.ref a0), .val (.ref a1), .val (.int (2 : Int32))] [(.ref a0)]))
    refine own_via (fun t k => XS.iconst X0.here hx rfl (hb hby d6_13) k) ?_
    show OwnEnds p.tables e below _ (s₁.setTop (mkF m 14 #[.val (.ref a0), .val (.ref a1), .val (.int (2 : Int32))] [(.int (0 : Int32)), (.ref a0)]))
    refine own_via (own_ldI X0 hx hZ e0 A_a0 (v := (.int x0)) 0 rfl rfl (g := (mkF m 14 #[.val (.ref a0), .val (.ref a1), .val (.int (2 : Int32))] [(.int (0 : Int32)), (.ref a0)])) rfl rfl (hb hby d6_14)) ?_
    show OwnEnds p.tables e below _ (s₁.setTop (mkF m 15 #[.val (.ref a0), .val (.ref a1), .val (.int (2 : Int32))] [(.int x0)]))
    refine own_via (fun t k => XS.aloadN X0.here hx rfl (hb hby d6_15) rfl rfl k) ?_
    show OwnEnds p.tables e below _ (s₁.setTop (mkF m 16 #[.val (.ref a0), .val (.ref a1), .val (.int (2 : Int32))] [(.ref a1), (.int x0)]))
    refine own_via (fun t k => XS.iconst X0.here hx rfl (hb hby d6_16) k) ?_
    show OwnEnds p.tables e below _ (s₁.setTop (mkF m 17 #[.val (.ref a0), .val (.ref a1), .val (.int (2 : Int32))] [(.int (0 : Int32)), (.ref a1), (.int x0)]))
    refine own_via (own_ldI X0 hx hZ e0 A_a1 (v := (.int x0)) 0 rfl rfl (g := (mkF m 17 #[.val (.ref a0), .val (.ref a1), .val (.int (2 : Int32))] [(.int (0 : Int32)), (.ref a1), (.int x0)])) rfl rfl (hb hby d6_17)) ?_
    show OwnEnds p.tables e below _ (s₁.setTop (mkF m 18 #[.val (.ref a0), .val (.ref a1), .val (.int (2 : Int32))] [(.int x0), (.int x0)]))
    have hc18_11 : x0 = x0 := rfl
    refine own_via (fun t k => XS.icmpNo X0.here hx rfl (hb hby d6_18) rfl (teq hc18_11).2 k) ?_
    show OwnEnds p.tables e below _ (s₁.setTop (mkF m 21 #[.val (.ref a0), .val (.ref a1), .val (.int (2 : Int32))] []))
    refine own_via (fun t k => XS.iloadN X0.here hx rfl (hb hby d6_21) rfl k) ?_
    show OwnEnds p.tables e below _ (s₁.setTop (mkF m 22 #[.val (.ref a0), .val (.ref a1), .val (.int (2 : Int32))] [(.int (2 : Int32))]))
    refine own_via (fun t k => XS.iconst X0.here hx rfl (hb hby d6_22) k) ?_
    show OwnEnds p.tables e below _ (s₁.setTop (mkF m 23 #[.val (.ref a0), .val (.ref a1), .val (.int (2 : Int32))] [(.int (1 : Int32)), (.int (2 : Int32))]))
    have hc23_12 : (1 : Int32) < (2 : Int32) := by decide
    refine own_via (fun t k => XS.icmpNo X0.here hx rfl (hb hby d6_23) rfl (tlt hc23_12).2.2.2 k) ?_
    show OwnEnds p.tables e below _ (s₁.setTop (mkF m 26 #[.val (.ref a0), .val (.ref a1), .val (.int (2 : Int32))] []))
    refine own_via (fun t k => XS.aloadN X0.here hx rfl (hb hby d6_26) rfl rfl k) ?_
    show OwnEnds p.tables e below _ (s₁.setTop (mkF m 27 #[.val (.ref a0), .val (.ref a1), .val (.int (2 : Int32))] [(.ref a0)]))
    refine own_via (fun t k => XS.iconst X0.here hx rfl (hb hby d6_27) k) ?_
    show OwnEnds p.tables e below _ (s₁.setTop (mkF m 28 #[.val (.ref a0), .val (.ref a1), .val (.int (2 : Int32))] [(.int (1 : Int32)), (.ref a0)]))
    refine own_via (own_ldI X0 hx hZ e0 A_a0 (v := (.int x1)) 1 rfl rfl (g := (mkF m 28 #[.val (.ref a0), .val (.ref a1), .val (.int (2 : Int32))] [(.int (1 : Int32)), (.ref a0)])) rfl rfl (hb hby d6_28)) ?_
    show OwnEnds p.tables e below _ (s₁.setTop (mkF m 29 #[.val (.ref a0), .val (.ref a1), .val (.int (2 : Int32))] [(.int x1)]))
    refine own_via (fun t k => XS.aloadN X0.here hx rfl (hb hby d6_29) rfl rfl k) ?_
    show OwnEnds p.tables e below _ (s₁.setTop (mkF m 30 #[.val (.ref a0), .val (.ref a1), .val (.int (2 : Int32))] [(.ref a1), (.int x1)]))
    refine own_via (fun t k => XS.iconst X0.here hx rfl (hb hby d6_30) k) ?_
    show OwnEnds p.tables e below _ (s₁.setTop (mkF m 31 #[.val (.ref a0), .val (.ref a1), .val (.int (2 : Int32))] [(.int (1 : Int32)), (.ref a1), (.int x1)]))
    refine own_via (own_ldI X0 hx hZ e0 A_a1 (v := (.int x1)) 1 rfl rfl (g := (mkF m 31 #[.val (.ref a0), .val (.ref a1), .val (.int (2 : Int32))] [(.int (1 : Int32)), (.ref a1), (.int x1)])) rfl rfl (hb hby d6_31)) ?_
    show OwnEnds p.tables e below _ (s₁.setTop (mkF m 32 #[.val (.ref a0), .val (.ref a1), .val (.int (2 : Int32))] [(.int x1), (.int x1)]))
    have hc32_13 : x1 = x1 := rfl
    refine own_via (fun t k => XS.icmpNo X0.here hx rfl (hb hby d6_32) rfl (teq hc32_13).2 k) ?_
    show OwnEnds p.tables e below _ (s₁.setTop (mkF m 35 #[.val (.ref a0), .val (.ref a1), .val (.int (2 : Int32))] []))
    refine own_via (fun t k => XS.iloadN X0.here hx rfl (hb hby d6_35) rfl k) ?_
    show OwnEnds p.tables e below _ (s₁.setTop (mkF m 36 #[.val (.ref a0), .val (.ref a1), .val (.int (2 : Int32))] [(.int (2 : Int32))]))
    refine own_via (fun t k => XS.iconst X0.here hx rfl (hb hby d6_36) k) ?_
    show OwnEnds p.tables e below _ (s₁.setTop (mkF m 37 #[.val (.ref a0), .val (.ref a1), .val (.int (2 : Int32))] [(.int (2 : Int32)), (.int (2 : Int32))]))
    have hc37_14 : ¬ ((2 : Int32) < (2 : Int32)) := by decide
    refine own_via (fun t k => XS.icmpYes X0.here hx rfl (pc0 := 37) (pc' := 49) rfl (hb hby d6_37) rfl (flt hc37_14).2.2.2 (by decide) (by decide) k) ?_
    show OwnEnds p.tables e below _ (s₁.setTop (mkF m 49 #[.val (.ref a0), .val (.ref a1), .val (.int (2 : Int32))] []))
    refine own_via (fun t k => XS.iloadN X0.here hx rfl (hb hby d6_49) rfl k) ?_
    show OwnEnds p.tables e below _ (s₁.setTop (mkF m 50 #[.val (.ref a0), .val (.ref a1), .val (.int (2 : Int32))] [(.int (2 : Int32))]))
    refine own_via (fun t k => XS.iconst X0.here hx rfl (hb hby d6_50) k) ?_
    show OwnEnds p.tables e below _ (s₁.setTop (mkF m 51 #[.val (.ref a0), .val (.ref a1), .val (.int (2 : Int32))] [(.int (3 : Int32)), (.int (2 : Int32))]))
    have hc51_15 : ¬ ((3 : Int32) < (2 : Int32)) := by decide
    refine own_via (fun t k => XS.icmpYes X0.here hx rfl (pc0 := 51) (pc' := 63) rfl (hb hby d6_51) rfl (flt hc51_15).2.2.2 (by decide) (by decide) k) ?_
    show OwnEnds p.tables e below _ (s₁.setTop (mkF m 63 #[.val (.ref a0), .val (.ref a1), .val (.int (2 : Int32))] []))
    refine own_via (fun t k => XS.iloadN X0.here hx rfl (hb hby d6_63) rfl k) ?_
    show OwnEnds p.tables e below _ (s₁.setTop (mkF m 64 #[.val (.ref a0), .val (.ref a1), .val (.int (2 : Int32))] [(.int (2 : Int32))]))
    refine own_via (fun t k => XS.iconst X0.here hx rfl (hb hby d6_64) k) ?_
    show OwnEnds p.tables e below _ (s₁.setTop (mkF m 65 #[.val (.ref a0), .val (.ref a1), .val (.int (2 : Int32))] [(.int (4 : Int32)), (.int (2 : Int32))]))
    have hc65_16 : ¬ ((4 : Int32) < (2 : Int32)) := by decide
    refine own_via (fun t k => XS.icmpYes X0.here hx rfl (pc0 := 65) (pc' := 77) rfl (hb hby d6_65) rfl (flt hc65_16).2.2.2 (by decide) (by decide) k) ?_
    show OwnEnds p.tables e below _ (s₁.setTop (mkF m 77 #[.val (.ref a0), .val (.ref a1), .val (.int (2 : Int32))] []))
    refine own_via (fun t k => XS.iloadN X0.here hx rfl (hb hby d6_77) rfl k) ?_
    show OwnEnds p.tables e below _ (s₁.setTop (mkF m 78 #[.val (.ref a0), .val (.ref a1), .val (.int (2 : Int32))] [(.int (2 : Int32))]))
    refine own_via (fun t k => XS.iconst X0.here hx rfl (hb hby d6_78) k) ?_
    show OwnEnds p.tables e below _ (s₁.setTop (mkF m 79 #[.val (.ref a0), .val (.ref a1), .val (.int (2 : Int32))] [(.int (5 : Int32)), (.int (2 : Int32))]))
    have hc79_17 : ¬ ((5 : Int32) < (2 : Int32)) := by decide
    refine own_via (fun t k => XS.icmpYes X0.here hx rfl (pc0 := 79) (pc' := 91) rfl (hb hby d6_79) rfl (flt hc79_17).2.2.2 (by decide) (by decide) k) ?_
    show OwnEnds p.tables e below _ (s₁.setTop (mkF m 91 #[.val (.ref a0), .val (.ref a1), .val (.int (2 : Int32))] []))
    refine own_via (fun t k => XS.iconst X0.here hx rfl (hb hby d6_91) k) ?_
    show OwnEnds p.tables e below _ (s₁.setTop (mkF m 92 #[.val (.ref a0), .val (.ref a1), .val (.int (2 : Int32))] [(.int (1 : Int32))]))
    refine own_via (fun t k => XS.goto X0.here hx rfl (pc0 := 92) (pc' := 96) rfl (hb hby d6_92) (by decide) (by decide) k) ?_
    show OwnEnds p.tables e below _ (s₁.setTop (mkF m 96 #[.val (.ref a0), .val (.ref a1), .val (.int (2 : Int32))] [(.int (1 : Int32))]))
    refine own_retN (t := .boolean) X0 hx Bd.returns (by simp) hlk (hb hby d6_96) ?_ (by decide) (by decide)
    rw [e0]
    exact ⟨rfl, N0, rfl⟩
  · skip
    subst hG
    have A_a0 : AL Z h0 a0 .int [(.int x0), (.int x1), (.int x2)] := A_a0
    have A_a1 : AL Z h0 a1 .int [(.int x0), (.int x1), (.int x2), (.int x3), (.int x4), (.int x5)] := A_a1
    show OwnEnds p.tables e below _ (s₁.setTop (mkF m 0 #[.val (.ref a0), .val (.ref a1), .val (.int (3 : Int32))] []))
    refine own_via (fun t k => XS.aloadN X0.here hx rfl (hb hby d6_0) rfl rfl k) ?_
    show OwnEnds p.tables e below _ (s₁.setTop (mkF m 1 #[.val (.ref a0), .val (.ref a1), .val (.int (3 : Int32))] [(.ref a0)]))
    refine own_via (own_len X0 hx hZ e0 A_a0 (z := (3 : Int32)) rfl (g := (mkF m 1 #[.val (.ref a0), .val (.ref a1), .val (.int (3 : Int32))] [(.ref a0)])) rfl rfl (hb hby d6_1)) ?_
    show OwnEnds p.tables e below _ (s₁.setTop (mkF m 2 #[.val (.ref a0), .val (.ref a1), .val (.int (3 : Int32))] [(.int (3 : Int32))]))
    refine own_via (fun t k => XS.iloadN X0.here hx rfl (hb hby d6_2) rfl k) ?_
    show OwnEnds p.tables e below _ (s₁.setTop (mkF m 3 #[.val (.ref a0), .val (.ref a1), .val (.int (3 : Int32))] [(.int (3 : Int32)), (.int (3 : Int32))]))
    have hc3_18 : (3 : Int32) = (3 : Int32) := by decide
    refine own_via (fun t k => XS.icmpYes X0.here hx rfl (pc0 := 3) (pc' := 8) rfl (hb hby d6_3) rfl (teq hc3_18).1 (by decide) (by decide) k) ?_
    show OwnEnds p.tables e below _ (s₁.setTop (mkF m 8 #[.val (.ref a0), .val (.ref a1), .val (.int (3 : Int32))] []))
    refine own_via (fun t k => XS.iloadN X0.here hx rfl (hb hby d6_8) rfl k) ?_
    show OwnEnds p.tables e below _ (s₁.setTop (mkF m 9 #[.val (.ref a0), .val (.ref a1), .val (.int (3 : Int32))] [(.int (3 : Int32))]))
    have hc9_19 : (0 : Int32) < (3 : Int32) := by decide
    refine own_via (fun t k => XS.ifNo X0.here hx rfl (hb hby d6_9) rfl ((if0 _ _).trans (tlt hc9_19).2.2.2) k) ?_
    show OwnEnds p.tables e below _ (s₁.setTop (mkF m 12 #[.val (.ref a0), .val (.ref a1), .val (.int (3 : Int32))] []))
    refine own_via (fun t k => XS.aloadN X0.here hx rfl (hb hby d6_12) rfl rfl k) ?_
    show OwnEnds p.tables e below _ (s₁.setTop (mkF m 13 #[.val (.ref a0), .val (.ref a1), .val (.int (3 : Int32))] [(.ref a0)]))
    refine own_via (fun t k => XS.iconst X0.here hx rfl (hb hby d6_13) k) ?_
    show OwnEnds p.tables e below _ (s₁.setTop (mkF m 14 #[.val (.ref a0), .val (.ref a1), .val (.int (3 : Int32))] [(.int (0 : Int32)), (.ref a0)]))
    refine own_via (own_ldI X0 hx hZ e0 A_a0 (v := (.int x0)) 0 rfl rfl (g := (mkF m 14 #[.val (.ref a0), .val (.ref a1), .val (.int (3 : Int32))] [(.int (0 : Int32)), (.ref a0)])) rfl rfl (hb hby d6_14)) ?_
    show OwnEnds p.tables e below _ (s₁.setTop (mkF m 15 #[.val (.ref a0), .val (.ref a1), .val (.int (3 : Int32))] [(.int x0)]))
    refine own_via (fun t k => XS.aloadN X0.here hx rfl (hb hby d6_15) rfl rfl k) ?_
    show OwnEnds p.tables e below _ (s₁.setTop (mkF m 16 #[.val (.ref a0), .val (.ref a1), .val (.int (3 : Int32))] [(.ref a1), (.int x0)]))
    refine own_via (fun t k => XS.iconst X0.here hx rfl (hb hby d6_16) k) ?_
    show OwnEnds p.tables e below _ (s₁.setTop (mkF m 17 #[.val (.ref a0), .val (.ref a1), .val (.int (3 : Int32))] [(.int (0 : Int32)), (.ref a1), (.int x0)]))
    refine own_via (own_ldI X0 hx hZ e0 A_a1 (v := (.int x0)) 0 rfl rfl (g := (mkF m 17 #[.val (.ref a0), .val (.ref a1), .val (.int (3 : Int32))] [(.int (0 : Int32)), (.ref a1), (.int x0)])) rfl rfl (hb hby d6_17)) ?_
    show OwnEnds p.tables e below _ (s₁.setTop (mkF m 18 #[.val (.ref a0), .val (.ref a1), .val (.int (3 : Int32))] [(.int x0), (.int x0)]))
    have hc18_20 : x0 = x0 := rfl
    refine own_via (fun t k => XS.icmpNo X0.here hx rfl (hb hby d6_18) rfl (teq hc18_20).2 k) ?_
    show OwnEnds p.tables e below _ (s₁.setTop (mkF m 21 #[.val (.ref a0), .val (.ref a1), .val (.int (3 : Int32))] []))
    refine own_via (fun t k => XS.iloadN X0.here hx rfl (hb hby d6_21) rfl k) ?_
    show OwnEnds p.tables e below _ (s₁.setTop (mkF m 22 #[.val (.ref a0), .val (.ref a1), .val (.int (3 : Int32))] [(.int (3 : Int32))]))
    refine own_via (fun t k => XS.iconst X0.here hx rfl (hb hby d6_22) k) ?_
    show OwnEnds p.tables e below _ (s₁.setTop (mkF m 23 #[.val (.ref a0), .val (.ref a1), .val (.int (3 : Int32))] [(.int (1 : Int32)), (.int (3 : Int32))]))
    have hc23_21 : (1 : Int32) < (3 : Int32) := by decide
    refine own_via (fun t k => XS.icmpNo X0.here hx rfl (hb hby d6_23) rfl (tlt hc23_21).2.2.2 k) ?_
    show OwnEnds p.tables e below _ (s₁.setTop (mkF m 26 #[.val (.ref a0), .val (.ref a1), .val (.int (3 : Int32))] []))
    refine own_via (fun t k => XS.aloadN X0.here hx rfl (hb hby d6_26) rfl rfl k) ?_
    show OwnEnds p.tables e below _ (s₁.setTop (mkF m 27 #[.val (.ref a0), .val (.ref a1), .val (.int (3 : Int32))] [(.ref a0)]))
    refine own_via (fun t k => XS.iconst X0.here hx rfl (hb hby d6_27) k) ?_
    show OwnEnds p.tables e below _ (s₁.setTop (mkF m 28 #[.val (.ref a0), .val (.ref a1), .val (.int (3 : Int32))] [(.int (1 : Int32)), (.ref a0)]))
    refine own_via (own_ldI X0 hx hZ e0 A_a0 (v := (.int x1)) 1 rfl rfl (g := (mkF m 28 #[.val (.ref a0), .val (.ref a1), .val (.int (3 : Int32))] [(.int (1 : Int32)), (.ref a0)])) rfl rfl (hb hby d6_28)) ?_
    show OwnEnds p.tables e below _ (s₁.setTop (mkF m 29 #[.val (.ref a0), .val (.ref a1), .val (.int (3 : Int32))] [(.int x1)]))
    refine own_via (fun t k => XS.aloadN X0.here hx rfl (hb hby d6_29) rfl rfl k) ?_
    show OwnEnds p.tables e below _ (s₁.setTop (mkF m 30 #[.val (.ref a0), .val (.ref a1), .val (.int (3 : Int32))] [(.ref a1), (.int x1)]))
    refine own_via (fun t k => XS.iconst X0.here hx rfl (hb hby d6_30) k) ?_
    show OwnEnds p.tables e below _ (s₁.setTop (mkF m 31 #[.val (.ref a0), .val (.ref a1), .val (.int (3 : Int32))] [(.int (1 : Int32)), (.ref a1), (.int x1)]))
    refine own_via (own_ldI X0 hx hZ e0 A_a1 (v := (.int x1)) 1 rfl rfl (g := (mkF m 31 #[.val (.ref a0), .val (.ref a1), .val (.int (3 : Int32))] [(.int (1 : Int32)), (.ref a1), (.int x1)])) rfl rfl (hb hby d6_31)) ?_
    show OwnEnds p.tables e below _ (s₁.setTop (mkF m 32 #[.val (.ref a0), .val (.ref a1), .val (.int (3 : Int32))] [(.int x1), (.int x1)]))
    have hc32_22 : x1 = x1 := rfl
    refine own_via (fun t k => XS.icmpNo X0.here hx rfl (hb hby d6_32) rfl (teq hc32_22).2 k) ?_
    show OwnEnds p.tables e below _ (s₁.setTop (mkF m 35 #[.val (.ref a0), .val (.ref a1), .val (.int (3 : Int32))] []))
    refine own_via (fun t k => XS.iloadN X0.here hx rfl (hb hby d6_35) rfl k) ?_
    show OwnEnds p.tables e below _ (s₁.setTop (mkF m 36 #[.val (.ref a0), .val (.ref a1), .val (.int (3 : Int32))] [(.int (3 : Int32))]))
    refine own_via (fun t k => XS.iconst X0.here hx rfl (hb hby d6_36) k) ?_
    show OwnEnds p.tables e below _ (s₁.setTop (mkF m 37 #[.val (.ref a0), .val (.ref a1), .val (.int (3 : Int32))] [(.int (2 : Int32)), (.int (3 : Int32))]))
    have hc37_23 : (2 : Int32) < (3 : Int32) := by decide
    refine own_via (fun t k => XS.icmpNo X0.here hx rfl (hb hby d6_37) rfl (tlt hc37_23).2.2.2 k) ?_
    show OwnEnds p.tables e below _ (s₁.setTop (mkF m 40 #[.val (.ref a0), .val (.ref a1), .val (.int (3 : Int32))] []))
    refine own_via (fun t k => XS.aloadN X0.here hx rfl (hb hby d6_40) rfl rfl k) ?_
    show OwnEnds p.tables e below _ (s₁.setTop (mkF m 41 #[.val (.ref a0), .val (.ref a1), .val (.int (3 : Int32))] [(.ref a0)]))
    refine own_via (fun t k => XS.iconst X0.here hx rfl (hb hby d6_41) k) ?_
    show OwnEnds p.tables e below _ (s₁.setTop (mkF m 42 #[.val (.ref a0), .val (.ref a1), .val (.int (3 : Int32))] [(.int (2 : Int32)), (.ref a0)]))
    refine own_via (own_ldI X0 hx hZ e0 A_a0 (v := (.int x2)) 2 rfl rfl (g := (mkF m 42 #[.val (.ref a0), .val (.ref a1), .val (.int (3 : Int32))] [(.int (2 : Int32)), (.ref a0)])) rfl rfl (hb hby d6_42)) ?_
    show OwnEnds p.tables e below _ (s₁.setTop (mkF m 43 #[.val (.ref a0), .val (.ref a1), .val (.int (3 : Int32))] [(.int x2)]))
    refine own_via (fun t k => XS.aloadN X0.here hx rfl (hb hby d6_43) rfl rfl k) ?_
    show OwnEnds p.tables e below _ (s₁.setTop (mkF m 44 #[.val (.ref a0), .val (.ref a1), .val (.int (3 : Int32))] [(.ref a1), (.int x2)]))
    refine own_via (fun t k => XS.iconst X0.here hx rfl (hb hby d6_44) k) ?_
    show OwnEnds p.tables e below _ (s₁.setTop (mkF m 45 #[.val (.ref a0), .val (.ref a1), .val (.int (3 : Int32))] [(.int (2 : Int32)), (.ref a1), (.int x2)]))
    refine own_via (own_ldI X0 hx hZ e0 A_a1 (v := (.int x2)) 2 rfl rfl (g := (mkF m 45 #[.val (.ref a0), .val (.ref a1), .val (.int (3 : Int32))] [(.int (2 : Int32)), (.ref a1), (.int x2)])) rfl rfl (hb hby d6_45)) ?_
    show OwnEnds p.tables e below _ (s₁.setTop (mkF m 46 #[.val (.ref a0), .val (.ref a1), .val (.int (3 : Int32))] [(.int x2), (.int x2)]))
    have hc46_24 : x2 = x2 := rfl
    refine own_via (fun t k => XS.icmpNo X0.here hx rfl (hb hby d6_46) rfl (teq hc46_24).2 k) ?_
    show OwnEnds p.tables e below _ (s₁.setTop (mkF m 49 #[.val (.ref a0), .val (.ref a1), .val (.int (3 : Int32))] []))
    refine own_via (fun t k => XS.iloadN X0.here hx rfl (hb hby d6_49) rfl k) ?_
    show OwnEnds p.tables e below _ (s₁.setTop (mkF m 50 #[.val (.ref a0), .val (.ref a1), .val (.int (3 : Int32))] [(.int (3 : Int32))]))
    refine own_via (fun t k => XS.iconst X0.here hx rfl (hb hby d6_50) k) ?_
    show OwnEnds p.tables e below _ (s₁.setTop (mkF m 51 #[.val (.ref a0), .val (.ref a1), .val (.int (3 : Int32))] [(.int (3 : Int32)), (.int (3 : Int32))]))
    have hc51_25 : ¬ ((3 : Int32) < (3 : Int32)) := by decide
    refine own_via (fun t k => XS.icmpYes X0.here hx rfl (pc0 := 51) (pc' := 63) rfl (hb hby d6_51) rfl (flt hc51_25).2.2.2 (by decide) (by decide) k) ?_
    show OwnEnds p.tables e below _ (s₁.setTop (mkF m 63 #[.val (.ref a0), .val (.ref a1), .val (.int (3 : Int32))] []))
    refine own_via (fun t k => XS.iloadN X0.here hx rfl (hb hby d6_63) rfl k) ?_
    show OwnEnds p.tables e below _ (s₁.setTop (mkF m 64 #[.val (.ref a0), .val (.ref a1), .val (.int (3 : Int32))] [(.int (3 : Int32))]))
    refine own_via (fun t k => XS.iconst X0.here hx rfl (hb hby d6_64) k) ?_
    show OwnEnds p.tables e below _ (s₁.setTop (mkF m 65 #[.val (.ref a0), .val (.ref a1), .val (.int (3 : Int32))] [(.int (4 : Int32)), (.int (3 : Int32))]))
    have hc65_26 : ¬ ((4 : Int32) < (3 : Int32)) := by decide
    refine own_via (fun t k => XS.icmpYes X0.here hx rfl (pc0 := 65) (pc' := 77) rfl (hb hby d6_65) rfl (flt hc65_26).2.2.2 (by decide) (by decide) k) ?_
    show OwnEnds p.tables e below _ (s₁.setTop (mkF m 77 #[.val (.ref a0), .val (.ref a1), .val (.int (3 : Int32))] []))
    refine own_via (fun t k => XS.iloadN X0.here hx rfl (hb hby d6_77) rfl k) ?_
    show OwnEnds p.tables e below _ (s₁.setTop (mkF m 78 #[.val (.ref a0), .val (.ref a1), .val (.int (3 : Int32))] [(.int (3 : Int32))]))
    refine own_via (fun t k => XS.iconst X0.here hx rfl (hb hby d6_78) k) ?_
    show OwnEnds p.tables e below _ (s₁.setTop (mkF m 79 #[.val (.ref a0), .val (.ref a1), .val (.int (3 : Int32))] [(.int (5 : Int32)), (.int (3 : Int32))]))
    have hc79_27 : ¬ ((5 : Int32) < (3 : Int32)) := by decide
    refine own_via (fun t k => XS.icmpYes X0.here hx rfl (pc0 := 79) (pc' := 91) rfl (hb hby d6_79) rfl (flt hc79_27).2.2.2 (by decide) (by decide) k) ?_
    show OwnEnds p.tables e below _ (s₁.setTop (mkF m 91 #[.val (.ref a0), .val (.ref a1), .val (.int (3 : Int32))] []))
    refine own_via (fun t k => XS.iconst X0.here hx rfl (hb hby d6_91) k) ?_
    show OwnEnds p.tables e below _ (s₁.setTop (mkF m 92 #[.val (.ref a0), .val (.ref a1), .val (.int (3 : Int32))] [(.int (1 : Int32))]))
    refine own_via (fun t k => XS.goto X0.here hx rfl (pc0 := 92) (pc' := 96) rfl (hb hby d6_92) (by decide) (by decide) k) ?_
    show OwnEnds p.tables e below _ (s₁.setTop (mkF m 96 #[.val (.ref a0), .val (.ref a1), .val (.int (3 : Int32))] [(.int (1 : Int32))]))
    refine own_retN (t := .boolean) X0 hx Bd.returns (by simp) hlk (hb hby d6_96) ?_ (by decide) (by decide)
    rw [e0]
    exact ⟨rfl, N0, rfl⟩
  · skip
    subst hG
    have A_a0 : AL Z h0 a0 .int [(.int x0), (.int x1), (.int x2), (.int x3)] := A_a0
    have A_a1 : AL Z h0 a1 .int [(.int x0), (.int x1), (.int x2), (.int x3), (.int x4), (.int x5)] := A_a1
    show OwnEnds p.tables e below _ (s₁.setTop (mkF m 0 #[.val (.ref a0), .val (.ref a1), .val (.int (4 : Int32))] []))
    refine own_via (fun t k => XS.aloadN X0.here hx rfl (hb hby d6_0) rfl rfl k) ?_
    show OwnEnds p.tables e below _ (s₁.setTop (mkF m 1 #[.val (.ref a0), .val (.ref a1), .val (.int (4 : Int32))] [(.ref a0)]))
    refine own_via (own_len X0 hx hZ e0 A_a0 (z := (4 : Int32)) rfl (g := (mkF m 1 #[.val (.ref a0), .val (.ref a1), .val (.int (4 : Int32))] [(.ref a0)])) rfl rfl (hb hby d6_1)) ?_
    show OwnEnds p.tables e below _ (s₁.setTop (mkF m 2 #[.val (.ref a0), .val (.ref a1), .val (.int (4 : Int32))] [(.int (4 : Int32))]))
    refine own_via (fun t k => XS.iloadN X0.here hx rfl (hb hby d6_2) rfl k) ?_
    show OwnEnds p.tables e below _ (s₁.setTop (mkF m 3 #[.val (.ref a0), .val (.ref a1), .val (.int (4 : Int32))] [(.int (4 : Int32)), (.int (4 : Int32))]))
    have hc3_28 : (4 : Int32) = (4 : Int32) := by decide
    refine own_via (fun t k => XS.icmpYes X0.here hx rfl (pc0 := 3) (pc' := 8) rfl (hb hby d6_3) rfl (teq hc3_28).1 (by decide) (by decide) k) ?_
    show OwnEnds p.tables e below _ (s₁.setTop (mkF m 8 #[.val (.ref a0), .val (.ref a1), .val (.int (4 : Int32))] []))
    refine own_via (fun t k => XS.iloadN X0.here hx rfl (hb hby d6_8) rfl k) ?_
    show OwnEnds p.tables e below _ (s₁.setTop (mkF m 9 #[.val (.ref a0), .val (.ref a1), .val (.int (4 : Int32))] [(.int (4 : Int32))]))
    have hc9_29 : (0 : Int32) < (4 : Int32) := by decide
    refine own_via (fun t k => XS.ifNo X0.here hx rfl (hb hby d6_9) rfl ((if0 _ _).trans (tlt hc9_29).2.2.2) k) ?_
    show OwnEnds p.tables e below _ (s₁.setTop (mkF m 12 #[.val (.ref a0), .val (.ref a1), .val (.int (4 : Int32))] []))
    refine own_via (fun t k => XS.aloadN X0.here hx rfl (hb hby d6_12) rfl rfl k) ?_
    show OwnEnds p.tables e below _ (s₁.setTop (mkF m 13 #[.val (.ref a0), .val (.ref a1), .val (.int (4 : Int32))] [(.ref a0)]))
    refine own_via (fun t k => XS.iconst X0.here hx rfl (hb hby d6_13) k) ?_
    show OwnEnds p.tables e below _ (s₁.setTop (mkF m 14 #[.val (.ref a0), .val (.ref a1), .val (.int (4 : Int32))] [(.int (0 : Int32)), (.ref a0)]))
    refine own_via (own_ldI X0 hx hZ e0 A_a0 (v := (.int x0)) 0 rfl rfl (g := (mkF m 14 #[.val (.ref a0), .val (.ref a1), .val (.int (4 : Int32))] [(.int (0 : Int32)), (.ref a0)])) rfl rfl (hb hby d6_14)) ?_
    show OwnEnds p.tables e below _ (s₁.setTop (mkF m 15 #[.val (.ref a0), .val (.ref a1), .val (.int (4 : Int32))] [(.int x0)]))
    refine own_via (fun t k => XS.aloadN X0.here hx rfl (hb hby d6_15) rfl rfl k) ?_
    show OwnEnds p.tables e below _ (s₁.setTop (mkF m 16 #[.val (.ref a0), .val (.ref a1), .val (.int (4 : Int32))] [(.ref a1), (.int x0)]))
    refine own_via (fun t k => XS.iconst X0.here hx rfl (hb hby d6_16) k) ?_
    show OwnEnds p.tables e below _ (s₁.setTop (mkF m 17 #[.val (.ref a0), .val (.ref a1), .val (.int (4 : Int32))] [(.int (0 : Int32)), (.ref a1), (.int x0)]))
    refine own_via (own_ldI X0 hx hZ e0 A_a1 (v := (.int x0)) 0 rfl rfl (g := (mkF m 17 #[.val (.ref a0), .val (.ref a1), .val (.int (4 : Int32))] [(.int (0 : Int32)), (.ref a1), (.int x0)])) rfl rfl (hb hby d6_17)) ?_
    show OwnEnds p.tables e below _ (s₁.setTop (mkF m 18 #[.val (.ref a0), .val (.ref a1), .val (.int (4 : Int32))] [(.int x0), (.int x0)]))
    have hc18_30 : x0 = x0 := rfl
    refine own_via (fun t k => XS.icmpNo X0.here hx rfl (hb hby d6_18) rfl (teq hc18_30).2 k) ?_
    show OwnEnds p.tables e below _ (s₁.setTop (mkF m 21 #[.val (.ref a0), .val (.ref a1), .val (.int (4 : Int32))] []))
    refine own_via (fun t k => XS.iloadN X0.here hx rfl (hb hby d6_21) rfl k) ?_
    show OwnEnds p.tables e below _ (s₁.setTop (mkF m 22 #[.val (.ref a0), .val (.ref a1), .val (.int (4 : Int32))] [(.int (4 : Int32))]))
    refine own_via (fun t k => XS.iconst X0.here hx rfl (hb hby d6_22) k) ?_
    show OwnEnds p.tables e below _ (s₁.setTop (mkF m 23 #[.val (.ref a0), .val (.ref a1), .val (.int (4 : Int32))] [(.int (1 : Int32)), (.int (4 : Int32))]))
    have hc23_31 : (1 : Int32) < (4 : Int32) := by decide
    refine own_via (fun t k => XS.icmpNo X0.here hx rfl (hb hby d6_23) rfl (tlt hc23_31).2.2.2 k) ?_
    show OwnEnds p.tables e below _ (s₁.setTop (mkF m 26 #[.val (.ref a0), .val (.ref a1), .val (.int (4 : Int32))] []))
    refine own_via (fun t k => XS.aloadN X0.here hx rfl (hb hby d6_26) rfl rfl k) ?_
    show OwnEnds p.tables e below _ (s₁.setTop (mkF m 27 #[.val (.ref a0), .val (.ref a1), .val (.int (4 : Int32))] [(.ref a0)]))
    refine own_via (fun t k => XS.iconst X0.here hx rfl (hb hby d6_27) k) ?_
    show OwnEnds p.tables e below _ (s₁.setTop (mkF m 28 #[.val (.ref a0), .val (.ref a1), .val (.int (4 : Int32))] [(.int (1 : Int32)), (.ref a0)]))
    refine own_via (own_ldI X0 hx hZ e0 A_a0 (v := (.int x1)) 1 rfl rfl (g := (mkF m 28 #[.val (.ref a0), .val (.ref a1), .val (.int (4 : Int32))] [(.int (1 : Int32)), (.ref a0)])) rfl rfl (hb hby d6_28)) ?_
    show OwnEnds p.tables e below _ (s₁.setTop (mkF m 29 #[.val (.ref a0), .val (.ref a1), .val (.int (4 : Int32))] [(.int x1)]))
    refine own_via (fun t k => XS.aloadN X0.here hx rfl (hb hby d6_29) rfl rfl k) ?_
    show OwnEnds p.tables e below _ (s₁.setTop (mkF m 30 #[.val (.ref a0), .val (.ref a1), .val (.int (4 : Int32))] [(.ref a1), (.int x1)]))
    refine own_via (fun t k => XS.iconst X0.here hx rfl (hb hby d6_30) k) ?_
    show OwnEnds p.tables e below _ (s₁.setTop (mkF m 31 #[.val (.ref a0), .val (.ref a1), .val (.int (4 : Int32))] [(.int (1 : Int32)), (.ref a1), (.int x1)]))
    refine own_via (own_ldI X0 hx hZ e0 A_a1 (v := (.int x1)) 1 rfl rfl (g := (mkF m 31 #[.val (.ref a0), .val (.ref a1), .val (.int (4 : Int32))] [(.int (1 : Int32)), (.ref a1), (.int x1)])) rfl rfl (hb hby d6_31)) ?_
    show OwnEnds p.tables e below _ (s₁.setTop (mkF m 32 #[.val (.ref a0), .val (.ref a1), .val (.int (4 : Int32))] [(.int x1), (.int x1)]))
    have hc32_32 : x1 = x1 := rfl
    refine own_via (fun t k => XS.icmpNo X0.here hx rfl (hb hby d6_32) rfl (teq hc32_32).2 k) ?_
    show OwnEnds p.tables e below _ (s₁.setTop (mkF m 35 #[.val (.ref a0), .val (.ref a1), .val (.int (4 : Int32))] []))
    refine own_via (fun t k => XS.iloadN X0.here hx rfl (hb hby d6_35) rfl k) ?_
    show OwnEnds p.tables e below _ (s₁.setTop (mkF m 36 #[.val (.ref a0), .val (.ref a1), .val (.int (4 : Int32))] [(.int (4 : Int32))]))
    refine own_via (fun t k => XS.iconst X0.here hx rfl (hb hby d6_36) k) ?_
    show OwnEnds p.tables e below _ (s₁.setTop (mkF m 37 #[.val (.ref a0), .val (.ref a1), .val (.int (4 : Int32))] [(.int (2 : Int32)), (.int (4 : Int32))]))
    have hc37_33 : (2 : Int32) < (4 : Int32) := by decide
    refine own_via (fun t k => XS.icmpNo X0.here hx rfl (hb hby d6_37) rfl (tlt hc37_33).2.2.2 k) ?_
    show OwnEnds p.tables e below _ (s₁.setTop (mkF m 40 #[.val (.ref a0), .val (.ref a1), .val (.int (4 : Int32))] []))
    refine own_via (fun t k => XS.aloadN X0.here hx rfl (hb hby d6_40) rfl rfl k) ?_
    show OwnEnds p.tables e below _ (s₁.setTop (mkF m 41 #[.val (.ref a0), .val (.ref a1), .val (.int (4 : Int32))] [(.ref a0)]))
    refine own_via (fun t k => XS.iconst X0.here hx rfl (hb hby d6_41) k) ?_
    show OwnEnds p.tables e below _ (s₁.setTop (mkF m 42 #[.val (.ref a0), .val (.ref a1), .val (.int (4 : Int32))] [(.int (2 : Int32)), (.ref a0)]))
    refine own_via (own_ldI X0 hx hZ e0 A_a0 (v := (.int x2)) 2 rfl rfl (g := (mkF m 42 #[.val (.ref a0), .val (.ref a1), .val (.int (4 : Int32))] [(.int (2 : Int32)), (.ref a0)])) rfl rfl (hb hby d6_42)) ?_
    show OwnEnds p.tables e below _ (s₁.setTop (mkF m 43 #[.val (.ref a0), .val (.ref a1), .val (.int (4 : Int32))] [(.int x2)]))
    refine own_via (fun t k => XS.aloadN X0.here hx rfl (hb hby d6_43) rfl rfl k) ?_
    show OwnEnds p.tables e below _ (s₁.setTop (mkF m 44 #[.val (.ref a0), .val (.ref a1), .val (.int (4 : Int32))] [(.ref a1), (.int x2)]))
    refine own_via (fun t k => XS.iconst X0.here hx rfl (hb hby d6_44) k) ?_
    show OwnEnds p.tables e below _ (s₁.setTop (mkF m 45 #[.val (.ref a0), .val (.ref a1), .val (.int (4 : Int32))] [(.int (2 : Int32)), (.ref a1), (.int x2)]))
    refine own_via (own_ldI X0 hx hZ e0 A_a1 (v := (.int x2)) 2 rfl rfl (g := (mkF m 45 #[.val (.ref a0), .val (.ref a1), .val (.int (4 : Int32))] [(.int (2 : Int32)), (.ref a1), (.int x2)])) rfl rfl (hb hby d6_45)) ?_
    show OwnEnds p.tables e below _ (s₁.setTop (mkF m 46 #[.val (.ref a0), .val (.ref a1), .val (.int (4 : Int32))] [(.int x2), (.int x2)]))
    have hc46_34 : x2 = x2 := rfl
    refine own_via (fun t k => XS.icmpNo X0.here hx rfl (hb hby d6_46) rfl (teq hc46_34).2 k) ?_
    show OwnEnds p.tables e below _ (s₁.setTop (mkF m 49 #[.val (.ref a0), .val (.ref a1), .val (.int (4 : Int32))] []))
    refine own_via (fun t k => XS.iloadN X0.here hx rfl (hb hby d6_49) rfl k) ?_
    show OwnEnds p.tables e below _ (s₁.setTop (mkF m 50 #[.val (.ref a0), .val (.ref a1), .val (.int (4 : Int32))] [(.int (4 : Int32))]))
    refine own_via (fun t k => XS.iconst X0.here hx rfl (hb hby d6_50) k) ?_
    show OwnEnds p.tables e below _ (s₁.setTop (mkF m 51 #[.val (.ref a0), .val (.ref a1), .val (.int (4 : Int32))] [(.int (3 : Int32)), (.int (4 : Int32))]))
    have hc51_35 : (3 : Int32) < (4 : Int32) := by decide
    refine own_via (fun t k => XS.icmpNo X0.here hx rfl (hb hby d6_51) rfl (tlt hc51_35).2.2.2 k) ?_
    show OwnEnds p.tables e below _ (s₁.setTop (mkF m 54 #[.val (.ref a0), .val (.ref a1), .val (.int (4 : Int32))] []))
    refine own_via (fun t k => XS.aloadN X0.here hx rfl (hb hby d6_54) rfl rfl k) ?_
    show OwnEnds p.tables e below _ (s₁.setTop (mkF m 55 #[.val (.ref a0), .val (.ref a1), .val (.int (4 : Int32))] [(.ref a0)]))
    refine own_via (fun t k => XS.iconst X0.here hx rfl (hb hby d6_55) k) ?_
    show OwnEnds p.tables e below _ (s₁.setTop (mkF m 56 #[.val (.ref a0), .val (.ref a1), .val (.int (4 : Int32))] [(.int (3 : Int32)), (.ref a0)]))
    refine own_via (own_ldI X0 hx hZ e0 A_a0 (v := (.int x3)) 3 rfl rfl (g := (mkF m 56 #[.val (.ref a0), .val (.ref a1), .val (.int (4 : Int32))] [(.int (3 : Int32)), (.ref a0)])) rfl rfl (hb hby d6_56)) ?_
    show OwnEnds p.tables e below _ (s₁.setTop (mkF m 57 #[.val (.ref a0), .val (.ref a1), .val (.int (4 : Int32))] [(.int x3)]))
    refine own_via (fun t k => XS.aloadN X0.here hx rfl (hb hby d6_57) rfl rfl k) ?_
    show OwnEnds p.tables e below _ (s₁.setTop (mkF m 58 #[.val (.ref a0), .val (.ref a1), .val (.int (4 : Int32))] [(.ref a1), (.int x3)]))
    refine own_via (fun t k => XS.iconst X0.here hx rfl (hb hby d6_58) k) ?_
    show OwnEnds p.tables e below _ (s₁.setTop (mkF m 59 #[.val (.ref a0), .val (.ref a1), .val (.int (4 : Int32))] [(.int (3 : Int32)), (.ref a1), (.int x3)]))
    refine own_via (own_ldI X0 hx hZ e0 A_a1 (v := (.int x3)) 3 rfl rfl (g := (mkF m 59 #[.val (.ref a0), .val (.ref a1), .val (.int (4 : Int32))] [(.int (3 : Int32)), (.ref a1), (.int x3)])) rfl rfl (hb hby d6_59)) ?_
    show OwnEnds p.tables e below _ (s₁.setTop (mkF m 60 #[.val (.ref a0), .val (.ref a1), .val (.int (4 : Int32))] [(.int x3), (.int x3)]))
    have hc60_36 : x3 = x3 := rfl
    refine own_via (fun t k => XS.icmpNo X0.here hx rfl (hb hby d6_60) rfl (teq hc60_36).2 k) ?_
    show OwnEnds p.tables e below _ (s₁.setTop (mkF m 63 #[.val (.ref a0), .val (.ref a1), .val (.int (4 : Int32))] []))
    refine own_via (fun t k => XS.iloadN X0.here hx rfl (hb hby d6_63) rfl k) ?_
    show OwnEnds p.tables e below _ (s₁.setTop (mkF m 64 #[.val (.ref a0), .val (.ref a1), .val (.int (4 : Int32))] [(.int (4 : Int32))]))
    refine own_via (fun t k => XS.iconst X0.here hx rfl (hb hby d6_64) k) ?_
    show OwnEnds p.tables e below _ (s₁.setTop (mkF m 65 #[.val (.ref a0), .val (.ref a1), .val (.int (4 : Int32))] [(.int (4 : Int32)), (.int (4 : Int32))]))
    have hc65_37 : ¬ ((4 : Int32) < (4 : Int32)) := by decide
    refine own_via (fun t k => XS.icmpYes X0.here hx rfl (pc0 := 65) (pc' := 77) rfl (hb hby d6_65) rfl (flt hc65_37).2.2.2 (by decide) (by decide) k) ?_
    show OwnEnds p.tables e below _ (s₁.setTop (mkF m 77 #[.val (.ref a0), .val (.ref a1), .val (.int (4 : Int32))] []))
    refine own_via (fun t k => XS.iloadN X0.here hx rfl (hb hby d6_77) rfl k) ?_
    show OwnEnds p.tables e below _ (s₁.setTop (mkF m 78 #[.val (.ref a0), .val (.ref a1), .val (.int (4 : Int32))] [(.int (4 : Int32))]))
    refine own_via (fun t k => XS.iconst X0.here hx rfl (hb hby d6_78) k) ?_
    show OwnEnds p.tables e below _ (s₁.setTop (mkF m 79 #[.val (.ref a0), .val (.ref a1), .val (.int (4 : Int32))] [(.int (5 : Int32)), (.int (4 : Int32))]))
    have hc79_38 : ¬ ((5 : Int32) < (4 : Int32)) := by decide
    refine own_via (fun t k => XS.icmpYes X0.here hx rfl (pc0 := 79) (pc' := 91) rfl (hb hby d6_79) rfl (flt hc79_38).2.2.2 (by decide) (by decide) k) ?_
    show OwnEnds p.tables e below _ (s₁.setTop (mkF m 91 #[.val (.ref a0), .val (.ref a1), .val (.int (4 : Int32))] []))
    refine own_via (fun t k => XS.iconst X0.here hx rfl (hb hby d6_91) k) ?_
    show OwnEnds p.tables e below _ (s₁.setTop (mkF m 92 #[.val (.ref a0), .val (.ref a1), .val (.int (4 : Int32))] [(.int (1 : Int32))]))
    refine own_via (fun t k => XS.goto X0.here hx rfl (pc0 := 92) (pc' := 96) rfl (hb hby d6_92) (by decide) (by decide) k) ?_
    show OwnEnds p.tables e below _ (s₁.setTop (mkF m 96 #[.val (.ref a0), .val (.ref a1), .val (.int (4 : Int32))] [(.int (1 : Int32))]))
    refine own_retN (t := .boolean) X0 hx Bd.returns (by simp) hlk (hb hby d6_96) ?_ (by decide) (by decide)
    rw [e0]
    exact ⟨rfl, N0, rfl⟩
  · skip
    subst hG
    have A_a0 : AL Z h0 a0 .int [(.int x0), (.int x1), (.int x2), (.int x3), (.int x4)] := A_a0
    have A_a1 : AL Z h0 a1 .int [(.int x0), (.int x1), (.int x2), (.int x3), (.int x4), (.int x5)] := A_a1
    show OwnEnds p.tables e below _ (s₁.setTop (mkF m 0 #[.val (.ref a0), .val (.ref a1), .val (.int (5 : Int32))] []))
    refine own_via (fun t k => XS.aloadN X0.here hx rfl (hb hby d6_0) rfl rfl k) ?_
    show OwnEnds p.tables e below _ (s₁.setTop (mkF m 1 #[.val (.ref a0), .val (.ref a1), .val (.int (5 : Int32))] [(.ref a0)]))
    refine own_via (own_len X0 hx hZ e0 A_a0 (z := (5 : Int32)) rfl (g := (mkF m 1 #[.val (.ref a0), .val (.ref a1), .val (.int (5 : Int32))] [(.ref a0)])) rfl rfl (hb hby d6_1)) ?_
    show OwnEnds p.tables e below _ (s₁.setTop (mkF m 2 #[.val (.ref a0), .val (.ref a1), .val (.int (5 : Int32))] [(.int (5 : Int32))]))
    refine own_via (fun t k => XS.iloadN X0.here hx rfl (hb hby d6_2) rfl k) ?_
    show OwnEnds p.tables e below _ (s₁.setTop (mkF m 3 #[.val (.ref a0), .val (.ref a1), .val (.int (5 : Int32))] [(.int (5 : Int32)), (.int (5 : Int32))]))
    have hc3_39 : (5 : Int32) = (5 : Int32) := by decide
    refine own_via (fun t k => XS.icmpYes X0.here hx rfl (pc0 := 3) (pc' := 8) rfl (hb hby d6_3) rfl (teq hc3_39).1 (by decide) (by decide) k) ?_
    show OwnEnds p.tables e below _ (s₁.setTop (mkF m 8 #[.val (.ref a0), .val (.ref a1), .val (.int (5 : Int32))] []))
    refine own_via (fun t k => XS.iloadN X0.here hx rfl (hb hby d6_8) rfl k) ?_
    show OwnEnds p.tables e below _ (s₁.setTop (mkF m 9 #[.val (.ref a0), .val (.ref a1), .val (.int (5 : Int32))] [(.int (5 : Int32))]))
    have hc9_40 : (0 : Int32) < (5 : Int32) := by decide
    refine own_via (fun t k => XS.ifNo X0.here hx rfl (hb hby d6_9) rfl ((if0 _ _).trans (tlt hc9_40).2.2.2) k) ?_
    show OwnEnds p.tables e below _ (s₁.setTop (mkF m 12 #[.val (.ref a0), .val (.ref a1), .val (.int (5 : Int32))] []))
    refine own_via (fun t k => XS.aloadN X0.here hx rfl (hb hby d6_12) rfl rfl k) ?_
    show OwnEnds p.tables e below _ (s₁.setTop (mkF m 13 #[.val (.ref a0), .val (.ref a1), .val (.int (5 : Int32))] [(.ref a0)]))
    refine own_via (fun t k => XS.iconst X0.here hx rfl (hb hby d6_13) k) ?_
    show OwnEnds p.tables e below _ (s₁.setTop (mkF m 14 #[.val (.ref a0), .val (.ref a1), .val (.int (5 : Int32))] [(.int (0 : Int32)), (.ref a0)]))
    refine own_via (own_ldI X0 hx hZ e0 A_a0 (v := (.int x0)) 0 rfl rfl (g := (mkF m 14 #[.val (.ref a0), .val (.ref a1), .val (.int (5 : Int32))] [(.int (0 : Int32)), (.ref a0)])) rfl rfl (hb hby d6_14)) ?_
    show OwnEnds p.tables e below _ (s₁.setTop (mkF m 15 #[.val (.ref a0), .val (.ref a1), .val (.int (5 : Int32))] [(.int x0)]))
    refine own_via (fun t k => XS.aloadN X0.here hx rfl (hb hby d6_15) rfl rfl k) ?_
    show OwnEnds p.tables e below _ (s₁.setTop (mkF m 16 #[.val (.ref a0), .val (.ref a1), .val (.int (5 : Int32))] [(.ref a1), (.int x0)]))
    refine own_via (fun t k => XS.iconst X0.here hx rfl (hb hby d6_16) k) ?_
    show OwnEnds p.tables e below _ (s₁.setTop (mkF m 17 #[.val (.ref a0), .val (.ref a1), .val (.int (5 : Int32))] [(.int (0 : Int32)), (.ref a1), (.int x0)]))
    refine own_via (own_ldI X0 hx hZ e0 A_a1 (v := (.int x0)) 0 rfl rfl (g := (mkF m 17 #[.val (.ref a0), .val (.ref a1), .val (.int (5 : Int32))] [(.int (0 : Int32)), (.ref a1), (.int x0)])) rfl rfl (hb hby d6_17)) ?_
    show OwnEnds p.tables e below _ (s₁.setTop (mkF m 18 #[.val (.ref a0), .val (.ref a1), .val (.int (5 : Int32))] [(.int x0), (.int x0)]))
    have hc18_41 : x0 = x0 := rfl
    refine own_via (fun t k => XS.icmpNo X0.here hx rfl (hb hby d6_18) rfl (teq hc18_41).2 k) ?_
    show OwnEnds p.tables e below _ (s₁.setTop (mkF m 21 #[.val (.ref a0), .val (.ref a1), .val (.int (5 : Int32))] []))
    refine own_via (fun t k => XS.iloadN X0.here hx rfl (hb hby d6_21) rfl k) ?_
    show OwnEnds p.tables e below _ (s₁.setTop (mkF m 22 #[.val (.ref a0), .val (.ref a1), .val (.int (5 : Int32))] [(.int (5 : Int32))]))
    refine own_via (fun t k => XS.iconst X0.here hx rfl (hb hby d6_22) k) ?_
    show OwnEnds p.tables e below _ (s₁.setTop (mkF m 23 #[.val (.ref a0), .val (.ref a1), .val (.int (5 : Int32))] [(.int (1 : Int32)), (.int (5 : Int32))]))
    have hc23_42 : (1 : Int32) < (5 : Int32) := by decide
    refine own_via (fun t k => XS.icmpNo X0.here hx rfl (hb hby d6_23) rfl (tlt hc23_42).2.2.2 k) ?_
    show OwnEnds p.tables e below _ (s₁.setTop (mkF m 26 #[.val (.ref a0), .val (.ref a1), .val (.int (5 : Int32))] []))
    refine own_via (fun t k => XS.aloadN X0.here hx rfl (hb hby d6_26) rfl rfl k) ?_
    show OwnEnds p.tables e below _ (s₁.setTop (mkF m 27 #[.val (.ref a0), .val (.ref a1), .val (.int (5 : Int32))] [(.ref a0)]))
    refine own_via (fun t k => XS.iconst X0.here hx rfl (hb hby d6_27) k) ?_
    show OwnEnds p.tables e below _ (s₁.setTop (mkF m 28 #[.val (.ref a0), .val (.ref a1), .val (.int (5 : Int32))] [(.int (1 : Int32)), (.ref a0)]))
    refine own_via (own_ldI X0 hx hZ e0 A_a0 (v := (.int x1)) 1 rfl rfl (g := (mkF m 28 #[.val (.ref a0), .val (.ref a1), .val (.int (5 : Int32))] [(.int (1 : Int32)), (.ref a0)])) rfl rfl (hb hby d6_28)) ?_
    show OwnEnds p.tables e below _ (s₁.setTop (mkF m 29 #[.val (.ref a0), .val (.ref a1), .val (.int (5 : Int32))] [(.int x1)]))
    refine own_via (fun t k => XS.aloadN X0.here hx rfl (hb hby d6_29) rfl rfl k) ?_
    show OwnEnds p.tables e below _ (s₁.setTop (mkF m 30 #[.val (.ref a0), .val (.ref a1), .val (.int (5 : Int32))] [(.ref a1), (.int x1)]))
    refine own_via (fun t k => XS.iconst X0.here hx rfl (hb hby d6_30) k) ?_
    show OwnEnds p.tables e below _ (s₁.setTop (mkF m 31 #[.val (.ref a0), .val (.ref a1), .val (.int (5 : Int32))] [(.int (1 : Int32)), (.ref a1), (.int x1)]))
    refine own_via (own_ldI X0 hx hZ e0 A_a1 (v := (.int x1)) 1 rfl rfl (g := (mkF m 31 #[.val (.ref a0), .val (.ref a1), .val (.int (5 : Int32))] [(.int (1 : Int32)), (.ref a1), (.int x1)])) rfl rfl (hb hby d6_31)) ?_
    show OwnEnds p.tables e below _ (s₁.setTop (mkF m 32 #[.val (.ref a0), .val (.ref a1), .val (.int (5 : Int32))] [(.int x1), (.int x1)]))
    have hc32_43 : x1 = x1 := rfl
    refine own_via (fun t k => XS.icmpNo X0.here hx rfl (hb hby d6_32) rfl (teq hc32_43).2 k) ?_
    show OwnEnds p.tables e below _ (s₁.setTop (mkF m 35 #[.val (.ref a0), .val (.ref a1), .val (.int (5 : Int32))] []))
    refine own_via (fun t k => XS.iloadN X0.here hx rfl (hb hby d6_35) rfl k) ?_
    show OwnEnds p.tables e below _ (s₁.setTop (mkF m 36 #[.val (.ref a0), .val (.ref a1), .val (.int (5 : Int32))] [(.int (5 : Int32))]))
    refine own_via (fun t k => XS.iconst X0.here hx rfl (hb hby d6_36) k) ?_
    show OwnEnds p.tables e below _ (s₁.setTop (mkF m 37 #[.val (.ref a0), .val (.ref a1), .val (.int (5 : Int32))] [(.int (2 : Int32)), (.int (5 : Int32))]))
    have hc37_44 : (2 : Int32) < (5 : Int32) := by decide
    refine own_via (fun t k => XS.icmpNo X0.here hx rfl (hb hby d6_37) rfl (tlt hc37_44).2.2.2 k) ?_
    show OwnEnds p.tables e below _ (s₁.setTop (mkF m 40 #[.val (.ref a0), .val (.ref a1), .val (.int (5 : Int32))] []))
    refine own_via (fun t k => XS.aloadN X0.here hx rfl (hb hby d6_40) rfl rfl k) ?_
    show OwnEnds p.tables e below _ (s₁.setTop (mkF m 41 #[.val (.ref a0), .val (.ref a1), .val (.int (5 : Int32))] [(.ref a0)]))
    refine own_via (fun t k => XS.iconst X0.here hx rfl (hb hby d6_41) k) ?_
    show OwnEnds p.tables e below _ (s₁.setTop (mkF m 42 #[.val (.ref a0), .val (.ref a1), .val (.int (5 : Int32))] [(.int (2 : Int32)), (.ref a0)]))
    refine own_via (own_ldI X0 hx hZ e0 A_a0 (v := (.int x2)) 2 rfl rfl (g := (mkF m 42 #[.val (.ref a0), .val (.ref a1), .val (.int (5 : Int32))] [(.int (2 : Int32)), (.ref a0)])) rfl rfl (hb hby d6_42)) ?_
    show OwnEnds p.tables e below _ (s₁.setTop (mkF m 43 #[.val (.ref a0), .val (.ref a1), .val (.int (5 : Int32))] [(.int x2)]))
    refine own_via (fun t k => XS.aloadN X0.here hx rfl (hb hby d6_43) rfl rfl k) ?_
    show OwnEnds p.tables e below _ (s₁.setTop (mkF m 44 #[.val (.ref a0), .val (.ref a1), .val (.int (5 : Int32))] [(.ref a1), (.int x2)]))
    refine own_via (fun t k => XS.iconst X0.here hx rfl (hb hby d6_44) k) ?_
    show OwnEnds p.tables e below _ (s₁.setTop (mkF m 45 #[.val (.ref a0), .val (.ref a1), .val (.int (5 : Int32))] [(.int (2 : Int32)), (.ref a1), (.int x2)]))
    refine own_via (own_ldI X0 hx hZ e0 A_a1 (v := (.int x2)) 2 rfl rfl (g := (mkF m 45 #[.val (.ref a0), .val (.ref a1), .val (.int (5 : Int32))] [(.int (2 : Int32)), (.ref a1), (.int x2)])) rfl rfl (hb hby d6_45)) ?_
    show OwnEnds p.tables e below _ (s₁.setTop (mkF m 46 #[.val (.ref a0), .val (.ref a1), .val (.int (5 : Int32))] [(.int x2), (.int x2)]))
    have hc46_45 : x2 = x2 := rfl
    refine own_via (fun t k => XS.icmpNo X0.here hx rfl (hb hby d6_46) rfl (teq hc46_45).2 k) ?_
    show OwnEnds p.tables e below _ (s₁.setTop (mkF m 49 #[.val (.ref a0), .val (.ref a1), .val (.int (5 : Int32))] []))
    refine own_via (fun t k => XS.iloadN X0.here hx rfl (hb hby d6_49) rfl k) ?_
    show OwnEnds p.tables e below _ (s₁.setTop (mkF m 50 #[.val (.ref a0), .val (.ref a1), .val (.int (5 : Int32))] [(.int (5 : Int32))]))
    refine own_via (fun t k => XS.iconst X0.here hx rfl (hb hby d6_50) k) ?_
    show OwnEnds p.tables e below _ (s₁.setTop (mkF m 51 #[.val (.ref a0), .val (.ref a1), .val (.int (5 : Int32))] [(.int (3 : Int32)), (.int (5 : Int32))]))
    have hc51_46 : (3 : Int32) < (5 : Int32) := by decide
    refine own_via (fun t k => XS.icmpNo X0.here hx rfl (hb hby d6_51) rfl (tlt hc51_46).2.2.2 k) ?_
    show OwnEnds p.tables e below _ (s₁.setTop (mkF m 54 #[.val (.ref a0), .val (.ref a1), .val (.int (5 : Int32))] []))
    refine own_via (fun t k => XS.aloadN X0.here hx rfl (hb hby d6_54) rfl rfl k) ?_
    show OwnEnds p.tables e below _ (s₁.setTop (mkF m 55 #[.val (.ref a0), .val (.ref a1), .val (.int (5 : Int32))] [(.ref a0)]))
    refine own_via (fun t k => XS.iconst X0.here hx rfl (hb hby d6_55) k) ?_
    show OwnEnds p.tables e below _ (s₁.setTop (mkF m 56 #[.val (.ref a0), .val (.ref a1), .val (.int (5 : Int32))] [(.int (3 : Int32)), (.ref a0)]))
    refine own_via (own_ldI X0 hx hZ e0 A_a0 (v := (.int x3)) 3 rfl rfl (g := (mkF m 56 #[.val (.ref a0), .val (.ref a1), .val (.int (5 : Int32))] [(.int (3 : Int32)), (.ref a0)])) rfl rfl (hb hby d6_56)) ?_
    show OwnEnds p.tables e below _ (s₁.setTop (mkF m 57 #[.val (.ref a0), .val (.ref a1), .val (.int (5 : Int32))] [(.int x3)]))
    refine own_via (fun t k => XS.aloadN X0.here hx rfl (hb hby d6_57) rfl rfl k) ?_
    show OwnEnds p.tables e below _ (s₁.setTop (mkF m 58 #[.val (.ref a0), .val (.ref a1), .val (.int (5 : Int32))] [(.ref a1), (.int x3)]))
    refine own_via (fun t k => XS.iconst X0.here hx rfl (hb hby d6_58) k) ?_
    show OwnEnds p.tables e below _ (s₁.setTop (mkF m 59 #[.val (.ref a0), .val (.ref a1), .val (.int (5 : Int32))] [(.int (3 : Int32)), (.ref a1), (.int x3)]))
    refine own_via (own_ldI X0 hx hZ e0 A_a1 (v := (.int x3)) 3 rfl rfl (g := (mkF m 59 #[.val (.ref a0), .val (.ref a1), .val (.int (5 : Int32))] [(.int (3 : Int32)), (.ref a1), (.int x3)])) rfl rfl (hb hby d6_59)) ?_
    show OwnEnds p.tables e below _ (s₁.setTop (mkF m 60 #[.val (.ref a0), .val (.ref a1), .val (.int (5 : Int32))] [(.int x3), (.int x3)]))
    have hc60_47 : x3 = x3 := rfl
    refine own_via (fun t k => XS.icmpNo X0.here hx rfl (hb hby d6_60) rfl (teq hc60_47).2 k) ?_
    show OwnEnds p.tables e below _ (s₁.setTop (mkF m 63 #[.val (.ref a0), .val (.ref a1), .val (.int (5 : Int32))] []))
    refine own_via (fun t k => XS.iloadN X0.here hx rfl (hb hby d6_63) rfl k) ?_
    show OwnEnds p.tables e below _ (s₁.setTop (mkF m 64 #[.val (.ref a0), .val (.ref a1), .val (.int (5 : Int32))] [(.int (5 : Int32))]))
    refine own_via (fun t k => XS.iconst X0.here hx rfl (hb hby d6_64) k) ?_
    show OwnEnds p.tables e below _ (s₁.setTop (mkF m 65 #[.val (.ref a0), .val (.ref a1), .val (.int (5 : Int32))] [(.int (4 : Int32)), (.int (5 : Int32))]))
    have hc65_48 : (4 : Int32) < (5 : Int32) := by decide
    refine own_via (fun t k => XS.icmpNo X0.here hx rfl (hb hby d6_65) rfl (tlt hc65_48).2.2.2 k) ?_
    show OwnEnds p.tables e below _ (s₁.setTop (mkF m 68 #[.val (.ref a0), .val (.ref a1), .val (.int (5 : Int32))] []))
    refine own_via (fun t k => XS.aloadN X0.here hx rfl (hb hby d6_68) rfl rfl k) ?_
    show OwnEnds p.tables e below _ (s₁.setTop (mkF m 69 #[.val (.ref a0), .val (.ref a1), .val (.int (5 : Int32))] [(.ref a0)]))
    refine own_via (fun t k => XS.iconst X0.here hx rfl (hb hby d6_69) k) ?_
    show OwnEnds p.tables e below _ (s₁.setTop (mkF m 70 #[.val (.ref a0), .val (.ref a1), .val (.int (5 : Int32))] [(.int (4 : Int32)), (.ref a0)]))
    refine own_via (own_ldI X0 hx hZ e0 A_a0 (v := (.int x4)) 4 rfl rfl (g := (mkF m 70 #[.val (.ref a0), .val (.ref a1), .val (.int (5 : Int32))] [(.int (4 : Int32)), (.ref a0)])) rfl rfl (hb hby d6_70)) ?_
    show OwnEnds p.tables e below _ (s₁.setTop (mkF m 71 #[.val (.ref a0), .val (.ref a1), .val (.int (5 : Int32))] [(.int x4)]))
    refine own_via (fun t k => XS.aloadN X0.here hx rfl (hb hby d6_71) rfl rfl k) ?_
    show OwnEnds p.tables e below _ (s₁.setTop (mkF m 72 #[.val (.ref a0), .val (.ref a1), .val (.int (5 : Int32))] [(.ref a1), (.int x4)]))
    refine own_via (fun t k => XS.iconst X0.here hx rfl (hb hby d6_72) k) ?_
    show OwnEnds p.tables e below _ (s₁.setTop (mkF m 73 #[.val (.ref a0), .val (.ref a1), .val (.int (5 : Int32))] [(.int (4 : Int32)), (.ref a1), (.int x4)]))
    refine own_via (own_ldI X0 hx hZ e0 A_a1 (v := (.int x4)) 4 rfl rfl (g := (mkF m 73 #[.val (.ref a0), .val (.ref a1), .val (.int (5 : Int32))] [(.int (4 : Int32)), (.ref a1), (.int x4)])) rfl rfl (hb hby d6_73)) ?_
    show OwnEnds p.tables e below _ (s₁.setTop (mkF m 74 #[.val (.ref a0), .val (.ref a1), .val (.int (5 : Int32))] [(.int x4), (.int x4)]))
    have hc74_49 : x4 = x4 := rfl
    refine own_via (fun t k => XS.icmpNo X0.here hx rfl (hb hby d6_74) rfl (teq hc74_49).2 k) ?_
    show OwnEnds p.tables e below _ (s₁.setTop (mkF m 77 #[.val (.ref a0), .val (.ref a1), .val (.int (5 : Int32))] []))
    refine own_via (fun t k => XS.iloadN X0.here hx rfl (hb hby d6_77) rfl k) ?_
    show OwnEnds p.tables e below _ (s₁.setTop (mkF m 78 #[.val (.ref a0), .val (.ref a1), .val (.int (5 : Int32))] [(.int (5 : Int32))]))
    refine own_via (fun t k => XS.iconst X0.here hx rfl (hb hby d6_78) k) ?_
    show OwnEnds p.tables e below _ (s₁.setTop (mkF m 79 #[.val (.ref a0), .val (.ref a1), .val (.int (5 : Int32))] [(.int (5 : Int32)), (.int (5 : Int32))]))
    have hc79_50 : ¬ ((5 : Int32) < (5 : Int32)) := by decide
    refine own_via (fun t k => XS.icmpYes X0.here hx rfl (pc0 := 79) (pc' := 91) rfl (hb hby d6_79) rfl (flt hc79_50).2.2.2 (by decide) (by decide) k) ?_
    show OwnEnds p.tables e below _ (s₁.setTop (mkF m 91 #[.val (.ref a0), .val (.ref a1), .val (.int (5 : Int32))] []))
    refine own_via (fun t k => XS.iconst X0.here hx rfl (hb hby d6_91) k) ?_
    show OwnEnds p.tables e below _ (s₁.setTop (mkF m 92 #[.val (.ref a0), .val (.ref a1), .val (.int (5 : Int32))] [(.int (1 : Int32))]))
    refine own_via (fun t k => XS.goto X0.here hx rfl (pc0 := 92) (pc' := 96) rfl (hb hby d6_92) (by decide) (by decide) k) ?_
    show OwnEnds p.tables e below _ (s₁.setTop (mkF m 96 #[.val (.ref a0), .val (.ref a1), .val (.int (5 : Int32))] [(.int (1 : Int32))]))
    refine own_retN (t := .boolean) X0 hx Bd.returns (by simp) hlk (hb hby d6_96) ?_ (by decide) (by decide)
    rw [e0]
    exact ⟨rfl, N0, rfl⟩
  · skip
    subst hG
    have A_a0 : AL Z h0 a0 .int [(.int x0), (.int x1), (.int x2), (.int x3), (.int x4), (.int x5)] := A_a0
    have A_a1 : AL Z h0 a1 .int [(.int x0), (.int x1), (.int x2), (.int x3), (.int x4), (.int x5)] := A_a1
    show OwnEnds p.tables e below _ (s₁.setTop (mkF m 0 #[.val (.ref a0), .val (.ref a1), .val (.int (6 : Int32))] []))
    refine own_via (fun t k => XS.aloadN X0.here hx rfl (hb hby d6_0) rfl rfl k) ?_
    show OwnEnds p.tables e below _ (s₁.setTop (mkF m 1 #[.val (.ref a0), .val (.ref a1), .val (.int (6 : Int32))] [(.ref a0)]))
    refine own_via (own_len X0 hx hZ e0 A_a0 (z := (6 : Int32)) rfl (g := (mkF m 1 #[.val (.ref a0), .val (.ref a1), .val (.int (6 : Int32))] [(.ref a0)])) rfl rfl (hb hby d6_1)) ?_
    show OwnEnds p.tables e below _ (s₁.setTop (mkF m 2 #[.val (.ref a0), .val (.ref a1), .val (.int (6 : Int32))] [(.int (6 : Int32))]))
    refine own_via (fun t k => XS.iloadN X0.here hx rfl (hb hby d6_2) rfl k) ?_
    show OwnEnds p.tables e below _ (s₁.setTop (mkF m 3 #[.val (.ref a0), .val (.ref a1), .val (.int (6 : Int32))] [(.int (6 : Int32)), (.int (6 : Int32))]))
    have hc3_51 : (6 : Int32) = (6 : Int32) := by decide
    refine own_via (fun t k => XS.icmpYes X0.here hx rfl (pc0 := 3) (pc' := 8) rfl (hb hby d6_3) rfl (teq hc3_51).1 (by decide) (by decide) k) ?_
    show OwnEnds p.tables e below _ (s₁.setTop (mkF m 8 #[.val (.ref a0), .val (.ref a1), .val (.int (6 : Int32))] []))
    refine own_via (fun t k => XS.iloadN X0.here hx rfl (hb hby d6_8) rfl k) ?_
    show OwnEnds p.tables e below _ (s₁.setTop (mkF m 9 #[.val (.ref a0), .val (.ref a1), .val (.int (6 : Int32))] [(.int (6 : Int32))]))
    have hc9_52 : (0 : Int32) < (6 : Int32) := by decide
    refine own_via (fun t k => XS.ifNo X0.here hx rfl (hb hby d6_9) rfl ((if0 _ _).trans (tlt hc9_52).2.2.2) k) ?_
    show OwnEnds p.tables e below _ (s₁.setTop (mkF m 12 #[.val (.ref a0), .val (.ref a1), .val (.int (6 : Int32))] []))
    refine own_via (fun t k => XS.aloadN X0.here hx rfl (hb hby d6_12) rfl rfl k) ?_
    show OwnEnds p.tables e below _ (s₁.setTop (mkF m 13 #[.val (.ref a0), .val (.ref a1), .val (.int (6 : Int32))] [(.ref a0)]))
    refine own_via (fun t k => XS.iconst X0.here hx rfl (hb hby d6_13) k) ?_
    show OwnEnds p.tables e below _ (s₁.setTop (mkF m 14 #[.val (.ref a0), .val (.ref a1), .val (.int (6 : Int32))] [(.int (0 : Int32)), (.ref a0)]))
    refine own_via (own_ldI X0 hx hZ e0 A_a0 (v := (.int x0)) 0 rfl rfl (g := (mkF m 14 #[.val (.ref a0), .val (.ref a1), .val (.int (6 : Int32))] [(.int (0 : Int32)), (.ref a0)])) rfl rfl (hb hby d6_14)) ?_
    show OwnEnds p.tables e below _ (s₁.setTop (mkF m 15 #[.val (.ref a0), .val (.ref a1), .val (.int (6 : Int32))] [(.int x0)]))
    refine own_via (fun t k => XS.aloadN X0.here hx rfl (hb hby d6_15) rfl rfl k) ?_
    show OwnEnds p.tables e below _ (s₁.setTop (mkF m 16 #[.val (.ref a0), .val (.ref a1), .val (.int (6 : Int32))] [(.ref a1), (.int x0)]))
    refine own_via (fun t k => XS.iconst X0.here hx rfl (hb hby d6_16) k) ?_
    show OwnEnds p.tables e below _ (s₁.setTop (mkF m 17 #[.val (.ref a0), .val (.ref a1), .val (.int (6 : Int32))] [(.int (0 : Int32)), (.ref a1), (.int x0)]))
    refine own_via (own_ldI X0 hx hZ e0 A_a1 (v := (.int x0)) 0 rfl rfl (g := (mkF m 17 #[.val (.ref a0), .val (.ref a1), .val (.int (6 : Int32))] [(.int (0 : Int32)), (.ref a1), (.int x0)])) rfl rfl (hb hby d6_17)) ?_
    show OwnEnds p.tables e below _ (s₁.setTop (mkF m 18 #[.val (.ref a0), .val (.ref a1), .val (.int (6 : Int32))] [(.int x0), (.int x0)]))
    have hc18_53 : x0 = x0 := rfl
    refine own_via (fun t k => XS.icmpNo X0.here hx rfl (hb hby d6_18) rfl (teq hc18_53).2 k) ?_
    show OwnEnds p.tables e below _ (s₁.setTop (mkF m 21 #[.val (.ref a0), .val (.ref a1), .val (.int (6 : Int32))] []))
    refine own_via (fun t k => XS.iloadN X0.here hx rfl (hb hby d6_21) rfl k) ?_
    show OwnEnds p.tables e below _ (s₁.setTop (mkF m 22 #[.val (.ref a0), .val (.ref a1), .val (.int (6 : Int32))] [(.int (6 : Int32))]))
    refine own_via (fun t k => XS.iconst X0.here hx rfl (hb hby d6_22) k) ?_
    show OwnEnds p.tables e below _ (s₁.setTop (mkF m 23 #[.val (.ref a0), .val (.ref a1), .val (.int (6 : Int32))] [(.int (1 : Int32)), (.int (6 : Int32))]))
    have hc23_54 : (1 : Int32) < (6 : Int32) := by decide
    refine own_via (fun t k => XS.icmpNo X0.here hx rfl (hb hby d6_23) rfl (tlt hc23_54).2.2.2 k) ?_
    show OwnEnds p.tables e below _ (s₁.setTop (mkF m 26 #[.val (.ref a0), .val (.ref a1), .val (.int (6 : Int32))] []))
    refine own_via (fun t k => XS.aloadN X0.here hx rfl (hb hby d6_26) rfl rfl k) ?_
    show OwnEnds p.tables e below _ (s₁.setTop (mkF m 27 #[.val (.ref a0), .val (.ref a1), .val (.int (6 : Int32))] [(.ref a0)]))
    refine own_via (fun t k => XS.iconst X0.here hx rfl (hb hby d6_27) k) ?_
    show OwnEnds p.tables e below _ (s₁.setTop (mkF m 28 #[.val (.ref a0), .val (.ref a1), .val (.int (6 : Int32))] [(.int (1 : Int32)), (.ref a0)]))
    refine own_via (own_ldI X0 hx hZ e0 A_a0 (v := (.int x1)) 1 rfl rfl (g := (mkF m 28 #[.val (.ref a0), .val (.ref a1), .val (.int (6 : Int32))] [(.int (1 : Int32)), (.ref a0)])) rfl rfl (hb hby d6_28)) ?_
    show OwnEnds p.tables e below _ (s₁.setTop (mkF m 29 #[.val (.ref a0), .val (.ref a1), .val (.int (6 : Int32))] [(.int x1)]))
    refine own_via (fun t k => XS.aloadN X0.here hx rfl (hb hby d6_29) rfl rfl k) ?_
    show OwnEnds p.tables e below _ (s₁.setTop (mkF m 30 #[.val (.ref a0), .val (.ref a1), .val (.int (6 : Int32))] [(.ref a1), (.int x1)]))
    refine own_via (fun t k => XS.iconst X0.here hx rfl (hb hby d6_30) k) ?_
    show OwnEnds p.tables e below _ (s₁.setTop (mkF m 31 #[.val (.ref a0), .val (.ref a1), .val (.int (6 : Int32))] [(.int (1 : Int32)), (.ref a1), (.int x1)]))
    refine own_via (own_ldI X0 hx hZ e0 A_a1 (v := (.int x1)) 1 rfl rfl (g := (mkF m 31 #[.val (.ref a0), .val (.ref a1), .val (.int (6 : Int32))] [(.int (1 : Int32)), (.ref a1), (.int x1)])) rfl rfl (hb hby d6_31)) ?_
    show OwnEnds p.tables e below _ (s₁.setTop (mkF m 32 #[.val (.ref a0), .val (.ref a1), .val (.int (6 : Int32))] [(.int x1), (.int x1)]))
    have hc32_55 : x1 = x1 := rfl
    refine own_via (fun t k => XS.icmpNo X0.here hx rfl (hb hby d6_32) rfl (teq hc32_55).2 k) ?_
    show OwnEnds p.tables e below _ (s₁.setTop (mkF m 35 #[.val (.ref a0), .val (.ref a1), .val (.int (6 : Int32))] []))
    refine own_via (fun t k => XS.iloadN X0.here hx rfl (hb hby d6_35) rfl k) ?_
    show OwnEnds p.tables e below _ (s₁.setTop (mkF m 36 #[.val (.ref a0), .val (.ref a1), .val (.int (6 : Int32))] [(.int (6 : Int32))]))
    refine own_via (fun t k => XS.iconst X0.here hx rfl (hb hby d6_36) k) ?_
    show OwnEnds p.tables e below _ (s₁.setTop (mkF m 37 #[.val (.ref a0), .val (.ref a1), .val (.int (6 : Int32))] [(.int (2 : Int32)), (.int (6 : Int32))]))
    have hc37_56 : (2 : Int32) < (6 : Int32) := by decide
    refine own_via (fun t k => XS.icmpNo X0.here hx rfl (hb hby d6_37) rfl (tlt hc37_56).2.2.2 k) ?_
    show OwnEnds p.tables e below _ (s₁.setTop (mkF m 40 #[.val (.ref a0), .val (.ref a1), .val (.int (6 : Int32))] []))
    refine own_via (fun t k => XS.aloadN X0.here hx rfl (hb hby d6_40) rfl rfl k) ?_
    show OwnEnds p.tables e below _ (s₁.setTop (mkF m 41 #[.val (.ref a0), .val (.ref a1), .val (.int (6 : Int32))] [(.ref a0)]))
    refine own_via (fun t k => XS.iconst X0.here hx rfl (hb hby d6_41) k) ?_
    show OwnEnds p.tables e below _ (s₁.setTop (mkF m 42 #[.val (.ref a0), .val (.ref a1), .val (.int (6 : Int32))] [(.int (2 : Int32)), (.ref a0)]))
    refine own_via (own_ldI X0 hx hZ e0 A_a0 (v := (.int x2)) 2 rfl rfl (g := (mkF m 42 #[.val (.ref a0), .val (.ref a1), .val (.int (6 : Int32))] [(.int (2 : Int32)), (.ref a0)])) rfl rfl (hb hby d6_42)) ?_
    show OwnEnds p.tables e below _ (s₁.setTop (mkF m 43 #[.val (.ref a0), .val (.ref a1), .val (.int (6 : Int32))] [(.int x2)]))
    refine own_via (fun t k => XS.aloadN X0.here hx rfl (hb hby d6_43) rfl rfl k) ?_
    show OwnEnds p.tables e below _ (s₁.setTop (mkF m 44 #[.val (.ref a0), .val (.ref a1), .val (.int (6 : Int32))] [(.ref a1), (.int x2)]))
    refine own_via (fun t k => XS.iconst X0.here hx rfl (hb hby d6_44) k) ?_
    show OwnEnds p.tables e below _ (s₁.setTop (mkF m 45 #[.val (.ref a0), .val (.ref a1), .val (.int (6 : Int32))] [(.int (2 : Int32)), (.ref a1), (.int x2)]))
    refine own_via (own_ldI X0 hx hZ e0 A_a1 (v := (.int x2)) 2 rfl rfl (g := (mkF m 45 #[.val (.ref a0), .val (.ref a1), .val (.int (6 : Int32))] [(.int (2 : Int32)), (.ref a1), (.int x2)])) rfl rfl (hb hby d6_45)) ?_
    show OwnEnds p.tables e below _ (s₁.setTop (mkF m 46 #[.val (.ref a0), .val (.ref a1), .val (.int (6 : Int32))] [(.int x2), (.int x2)]))
    have hc46_57 : x2 = x2 := rfl
    refine own_via (fun t k => XS.icmpNo X0.here hx rfl (hb hby d6_46) rfl (teq hc46_57).2 k) ?_
    show OwnEnds p.tables e below _ (s₁.setTop (mkF m 49 #[.val (.ref a0), .val (.ref a1), .val (.int (6 : Int32))] []))
    refine own_via (fun t k => XS.iloadN X0.here hx rfl (hb hby d6_49) rfl k) ?_
    show OwnEnds p.tables e below _ (s₁.setTop (mkF m 50 #[.val (.ref a0), .val (.ref a1), .val (.int (6 : Int32))] [(.int (6 : Int32))]))
    refine own_via (fun t k => XS.iconst X0.here hx rfl (hb hby d6_50) k) ?_
    show OwnEnds p.tables e below _ (s₁.setTop (mkF m 51 #[.val (.ref a0), .val (.ref a1), .val (.int (6 : Int32))] [(.int (3 : Int32)), (.int (6 : Int32))]))
    have hc51_58 : (3 : Int32) < (6 : Int32) := by decide
    refine own_via (fun t k => XS.icmpNo X0.here hx rfl (hb hby d6_51) rfl (tlt hc51_58).2.2.2 k) ?_
    show OwnEnds p.tables e below _ (s₁.setTop (mkF m 54 #[.val (.ref a0), .val (.ref a1), .val (.int (6 : Int32))] []))
    refine own_via (fun t k => XS.aloadN X0.here hx rfl (hb hby d6_54) rfl rfl k) ?_
    show OwnEnds p.tables e below _ (s₁.setTop (mkF m 55 #[.val (.ref a0), .val (.ref a1), .val (.int (6 : Int32))] [(.ref a0)]))
    refine own_via (fun t k => XS.iconst X0.here hx rfl (hb hby d6_55) k) ?_
    show OwnEnds p.tables e below _ (s₁.setTop (mkF m 56 #[.val (.ref a0), .val (.ref a1), .val (.int (6 : Int32))] [(.int (3 : Int32)), (.ref a0)]))
    refine own_via (own_ldI X0 hx hZ e0 A_a0 (v := (.int x3)) 3 rfl rfl (g := (mkF m 56 #[.val (.ref a0), .val (.ref a1), .val (.int (6 : Int32))] [(.int (3 : Int32)), (.ref a0)])) rfl rfl (hb hby d6_56)) ?_
    show OwnEnds p.tables e below _ (s₁.setTop (mkF m 57 #[.val (.ref a0), .val (.ref a1), .val (.int (6 : Int32))] [(.int x3)]))
    refine own_via (fun t k => XS.aloadN X0.here hx rfl (hb hby d6_57) rfl rfl k) ?_
    show OwnEnds p.tables e below _ (s₁.setTop (mkF m 58 #[.val (.ref a0), .val (.ref a1), .val (.int (6 : Int32))] [(.ref a1), (.int x3)]))
    refine own_via (fun t k => XS.iconst X0.here hx rfl (hb hby d6_58) k) ?_
    show OwnEnds p.tables e below _ (s₁.setTop (mkF m 59 #[.val (.ref a0), .val (.ref a1), .val (.int (6 : Int32))] [(.int (3 : Int32)), (.ref a1), (.int x3)]))
    refine own_via (own_ldI X0 hx hZ e0 A_a1 (v := (.int x3)) 3 rfl rfl (g := (mkF m 59 #[.val (.ref a0), .val (.ref a1), .val (.int (6 : Int32))] [(.int (3 : Int32)), (.ref a1), (.int x3)])) rfl rfl (hb hby d6_59)) ?_
    show OwnEnds p.tables e below _ (s₁.setTop (mkF m 60 #[.val (.ref a0), .val (.ref a1), .val (.int (6 : Int32))] [(.int x3), (.int x3)]))
    have hc60_59 : x3 = x3 := rfl
    refine own_via (fun t k => XS.icmpNo X0.here hx rfl (hb hby d6_60) rfl (teq hc60_59).2 k) ?_
    show OwnEnds p.tables e below _ (s₁.setTop (mkF m 63 #[.val (.ref a0), .val (.ref a1), .val (.int (6 : Int32))] []))
    refine own_via (fun t k => XS.iloadN X0.here hx rfl (hb hby d6_63) rfl k) ?_
    show OwnEnds p.tables e below _ (s₁.setTop (mkF m 64 #[.val (.ref a0), .val (.ref a1), .val (.int (6 : Int32))] [(.int (6 : Int32))]))
    refine own_via (fun t k => XS.iconst X0.here hx rfl (hb hby d6_64) k) ?_
    show OwnEnds p.tables e below _ (s₁.setTop (mkF m 65 #[.val (.ref a0), .val (.ref a1), .val (.int (6 : Int32))] [(.int (4 : Int32)), (.int (6 : Int32))]))
    have hc65_60 : (4 : Int32) < (6 : Int32) := by decide
    refine own_via (fun t k => XS.icmpNo X0.here hx rfl (hb hby d6_65) rfl (tlt hc65_60).2.2.2 k) ?_
    show OwnEnds p.tables e below _ (s₁.setTop (mkF m 68 #[.val (.ref a0), .val (.ref a1), .val (.int (6 : Int32))] []))
    refine own_via (fun t k => XS.aloadN X0.here hx rfl (hb hby d6_68) rfl rfl k) ?_
    show OwnEnds p.tables e below _ (s₁.setTop (mkF m 69 #[.val (.ref a0), .val (.ref a1), .val (.int (6 : Int32))] [(.ref a0)]))
    refine own_via (fun t k => XS.iconst X0.here hx rfl (hb hby d6_69) k) ?_
    show OwnEnds p.tables e below _ (s₁.setTop (mkF m 70 #[.val (.ref a0), .val (.ref a1), .val (.int (6 : Int32))] [(.int (4 : Int32)), (.ref a0)]))
    refine own_via (own_ldI X0 hx hZ e0 A_a0 (v := (.int x4)) 4 rfl rfl (g := (mkF m 70 #[.val (.ref a0), .val (.ref a1), .val (.int (6 : Int32))] [(.int (4 : Int32)), (.ref a0)])) rfl rfl (hb hby d6_70)) ?_
    show OwnEnds p.tables e below _ (s₁.setTop (mkF m 71 #[.val (.ref a0), .val (.ref a1), .val (.int (6 : Int32))] [(.int x4)]))
    refine own_via (fun t k => XS.aloadN X0.here hx rfl (hb hby d6_71) rfl rfl k) ?_
    show OwnEnds p.tables e below _ (s₁.setTop (mkF m 72 #[.val (.ref a0), .val (.ref a1), .val (.int (6 : Int32))] [(.ref a1), (.int x4)]))
    refine own_via (fun t k => XS.iconst X0.here hx rfl (hb hby d6_72) k) ?_
    show OwnEnds p.tables e below _ (s₁.setTop (mkF m 73 #[.val (.ref a0), .val (.ref a1), .val (.int (6 : Int32))] [(.int (4 : Int32)), (.ref a1), (.int x4)]))
    refine own_via (own_ldI X0 hx hZ e0 A_a1 (v := (.int x4)) 4 rfl rfl (g := (mkF m 73 #[.val (.ref a0), .val (.ref a1), .val (.int (6 : Int32))] [(.int (4 : Int32)), (.ref a1), (.int x4)])) rfl rfl (hb hby d6_73)) ?_
    show OwnEnds p.tables e below _ (s₁.setTop (mkF m 74 #[.val (.ref a0), .val (.ref a1), .val (.int (6 : Int32))] [(.int x4), (.int x4)]))
    have hc74_61 : x4 = x4 := rfl
    refine own_via (fun t k => XS.icmpNo X0.here hx rfl (hb hby d6_74) rfl (teq hc74_61).2 k) ?_
    show OwnEnds p.tables e below _ (s₁.setTop (mkF m 77 #[.val (.ref a0), .val (.ref a1), .val (.int (6 : Int32))] []))
    refine own_via (fun t k => XS.iloadN X0.here hx rfl (hb hby d6_77) rfl k) ?_
    show OwnEnds p.tables e below _ (s₁.setTop (mkF m 78 #[.val (.ref a0), .val (.ref a1), .val (.int (6 : Int32))] [(.int (6 : Int32))]))
    refine own_via (fun t k => XS.iconst X0.here hx rfl (hb hby d6_78) k) ?_
    show OwnEnds p.tables e below _ (s₁.setTop (mkF m 79 #[.val (.ref a0), .val (.ref a1), .val (.int (6 : Int32))] [(.int (5 : Int32)), (.int (6 : Int32))]))
    have hc79_62 : (5 : Int32) < (6 : Int32) := by decide
    refine own_via (fun t k => XS.icmpNo X0.here hx rfl (hb hby d6_79) rfl (tlt hc79_62).2.2.2 k) ?_
    show OwnEnds p.tables e below _ (s₁.setTop (mkF m 82 #[.val (.ref a0), .val (.ref a1), .val (.int (6 : Int32))] []))
    refine own_via (fun t k => XS.aloadN X0.here hx rfl (hb hby d6_82) rfl rfl k) ?_
    show OwnEnds p.tables e below _ (s₁.setTop (mkF m 83 #[.val (.ref a0), .val (.ref a1), .val (.int (6 : Int32))] [(.ref a0)]))
    refine own_via (fun t k => XS.iconst X0.here hx rfl (hb hby d6_83) k) ?_
    show OwnEnds p.tables e below _ (s₁.setTop (mkF m 84 #[.val (.ref a0), .val (.ref a1), .val (.int (6 : Int32))] [(.int (5 : Int32)), (.ref a0)]))
    refine own_via (own_ldI X0 hx hZ e0 A_a0 (v := (.int x5)) 5 rfl rfl (g := (mkF m 84 #[.val (.ref a0), .val (.ref a1), .val (.int (6 : Int32))] [(.int (5 : Int32)), (.ref a0)])) rfl rfl (hb hby d6_84)) ?_
    show OwnEnds p.tables e below _ (s₁.setTop (mkF m 85 #[.val (.ref a0), .val (.ref a1), .val (.int (6 : Int32))] [(.int x5)]))
    refine own_via (fun t k => XS.aloadN X0.here hx rfl (hb hby d6_85) rfl rfl k) ?_
    show OwnEnds p.tables e below _ (s₁.setTop (mkF m 86 #[.val (.ref a0), .val (.ref a1), .val (.int (6 : Int32))] [(.ref a1), (.int x5)]))
    refine own_via (fun t k => XS.iconst X0.here hx rfl (hb hby d6_86) k) ?_
    show OwnEnds p.tables e below _ (s₁.setTop (mkF m 87 #[.val (.ref a0), .val (.ref a1), .val (.int (6 : Int32))] [(.int (5 : Int32)), (.ref a1), (.int x5)]))
    refine own_via (own_ldI X0 hx hZ e0 A_a1 (v := (.int x5)) 5 rfl rfl (g := (mkF m 87 #[.val (.ref a0), .val (.ref a1), .val (.int (6 : Int32))] [(.int (5 : Int32)), (.ref a1), (.int x5)])) rfl rfl (hb hby d6_87)) ?_
    show OwnEnds p.tables e below _ (s₁.setTop (mkF m 88 #[.val (.ref a0), .val (.ref a1), .val (.int (6 : Int32))] [(.int x5), (.int x5)]))
    have hc88_63 : x5 = x5 := rfl
    refine own_via (fun t k => XS.icmpNo X0.here hx rfl (hb hby d6_88) rfl (teq hc88_63).2 k) ?_
    show OwnEnds p.tables e below _ (s₁.setTop (mkF m 91 #[.val (.ref a0), .val (.ref a1), .val (.int (6 : Int32))] []))
    refine own_via (fun t k => XS.iconst X0.here hx rfl (hb hby d6_91) k) ?_
    show OwnEnds p.tables e below _ (s₁.setTop (mkF m 92 #[.val (.ref a0), .val (.ref a1), .val (.int (6 : Int32))] [(.int (1 : Int32))]))
    refine own_via (fun t k => XS.goto X0.here hx rfl (pc0 := 92) (pc' := 96) rfl (hb hby d6_92) (by decide) (by decide) k) ?_
    show OwnEnds p.tables e below _ (s₁.setTop (mkF m 96 #[.val (.ref a0), .val (.ref a1), .val (.int (6 : Int32))] [(.int (1 : Int32))]))
    refine own_retN (t := .boolean) X0 hx Bd.returns (by simp) hlk (hb hby d6_96) ?_ (by decide) (by decide)
    rw [e0]
    exact ⟨rfl, N0, rfl⟩
theorem ef_0 (m : MethodId) (p0 : Int32) (p1 : Int32) (p2 : Int32) : entryFrame m #[(.int p0), (.int p1), (.int p2)] maxLocals = mkF m 0 #[.val (.int p0), .val (.int p1), .val (.int p2), .unset, .unset, .unset, .unset, .unset, .unset, .unset, .unset, .unset, .unset, .unset, .unset, .unset, .unset, .unset, .unset] [] := by first | (simp [entryFrame, mkF, argsToLocals, Value.category, maxLocals]; done) | rfl
def Q0 (Z : State) (p0 : Int32) (p1 : Int32) (p2 : Int32) (na : Addr) (h0 : Heap) (n0 : Nat) (v : Option Value) (h : Heap) (L : List Loc) : Prop := v = some (.int 1) ∧ Fr n0 L
theorem pd_0 : parseMethodDescriptor "([BIIII)[I" = some ⟨[(.array .byte), .int, .int, .int, .int], some (.array .int)⟩ := by decide +kernel
theorem pd_1 : parseMethodDescriptor "(II)I" = some ⟨[.int, .int], some .int⟩ := by decide +kernel
theorem pd_2 : parseMethodDescriptor "([I[IZZ)V" = some ⟨[(.array .int), (.array .int), .boolean, .boolean], none⟩ := by decide +kernel
theorem pd_3 : parseMethodDescriptor "([I[II)Z" = some ⟨[(.array .int), (.array .int), .int], some .boolean⟩ := by decide +kernel
set_option maxRecDepth 65536 in
set_option maxHeartbeats 40000000 in
theorem rm0 (l : Launch) (Z : State) (aw : Array Value) (hw : ∀ d ∈ tables_1, d.before aw Z = true) (ws : List Jvm.Cond) (p0 : Int32) (p1 : Int32) (p2 : Int32) (na : Addr) (h0 : Heap) (n0 : Nat) (Z0 : n0 ≤ h0.size) (S_ne : Sta Z Z.heap "com/example/shelfmark/shelfmark/Scanline" "NO_ELEMENTS" "[I" (.ref na)) (A_na : AL Z h0 na .int []) (O0 : Old Z n0 h0) :
    MetFree l x (head1 (Jvm.Cond.code x code maxLocals ret :: ws) room_1) (fun a U => a = #[(.int p0), (.int p1), (.int p2)] ∧ Z.Warmed39 U.vm ∧ U.heap = h0) (fun _ _ _ _ _ => True) (fun _ U o U' => ∃ v L, o = .returned v ∧ Q0 Z p0 p1 p2 na h0 n0 v U'.heap L ∧ FrameEnd U o U' L 24 128) := by
  refine MetFree.of_bodySF (plainFor_of_name pn_1) hisR ?_
  intro p e s m args below meth c s₁ Bd hml0 hP hK
  obtain ⟨rfl, hZ, hh⟩ := hP
  have hx := Bd.exec
  have hby := Bd.bytes
  have hml : c.maxLocals = 19 := hml0
  have hown : s.vm.findClass "com/example/shelfmark/shelfmark/ScanlineElementsPinLaw" = some m.cls := findClass_of_methodNamed Bd.named
  have hnm := (name_of_methodNamed Bd.named Bd.method).1
  have hlk : meth.locks = false := Bd.notSynchronized
  have X0 : Stand p l e room_1 s m #[(.int p0), (.int p1), (.int p2)] below meth c s₁ [] 0 0 := Stand.of_body Bd
  have e0 : s₁.heap = h0 := by rw [← hh, Bd.state]; rfl
  have N0 := Fr.nil n0
  show OwnEnds p.tables e below (OwnQ s 24 128 (Q0 Z p0 p1 p2 na h0 n0)) (s₁.setTop (entryFrame m #[(.int p0), (.int p1), (.int p2)] maxLocals))
  refine own_via (fun t k => castTop (ef_0 m p0 p1 p2) k) ?_
  show OwnEnds p.tables e below _ (s₁.setTop (mkF m 0 #[.val (.int p0), .val (.int p1), .val (.int p2), .unset, .unset, .unset, .unset, .unset, .unset, .unset, .unset, .unset, .unset, .unset, .unset, .unset, .unset, .unset, .unset] []))
  refine own_via (fun t k => XS.iconst X0.here hx rfl (hb hby at_0) k) ?_
  show OwnEnds p.tables e below _ (s₁.setTop (mkF m 1 #[.val (.int p0), .val (.int p1), .val (.int p2), .unset, .unset, .unset, .unset, .unset, .unset, .unset, .unset, .unset, .unset, .unset, .unset, .unset, .unset, .unset, .unset] [(.int (5 : Int32))]))
  obtain ⟨T1, h1, k1, X1, e1, E1, A1, st1⟩ := newP X0 hx hZ (hw _ (List.mem_of_getElem? (i := 0) rfl)) e0 (g := (mkF m 1 #[.val (.int p0), .val (.int p1), .val (.int p2), .unset, .unset, .unset, .unset, .unset, .unset, .unset, .unset, .unset, .unset, .unset, .unset, .unset, .unset, .unset, .unset] [(.int (5 : Int32))])) rfl (hb hby at_1) rfl (by decide) (cap := 5) (by decide) (by decide) (by decide) (by decide)
  obtain ⟨b1, g1⟩ : ∃ z, z = h0.size := ⟨_, rfl⟩
  rw [← g1] at A1 st1
  have ne_na_b1 : na ≠ b1 := Nat.ne_of_lt (Nat.lt_of_lt_of_le A_na.lt (Nat.le_of_eq g1.symm))
  have g_b1 : n0 ≤ b1 := Nat.le_trans Z0 (Nat.le_of_eq g1.symm)
  have Zs_1 : n0 ≤ _ := Nat.le_trans Z0 E1.1
  replace A_na := A_na.ext E1
  replace O0 := O0.ext E1
  have A_b1 : AL Z h1 b1 .byte [(.int (0 : Int32)), (.int (0 : Int32)), (.int (0 : Int32)), (.int (0 : Int32)), (.int (0 : Int32))] := AL.new A1 (by decide) (i := 5) rfl
  refine own_via st1 ?_
  show OwnEnds p.tables e below _ (T1.setTop (mkF m 3 #[.val (.int p0), .val (.int p1), .val (.int p2), .unset, .unset, .unset, .unset, .unset, .unset, .unset, .unset, .unset, .unset, .unset, .unset, .unset, .unset, .unset, .unset] [(.ref b1)]))
  refine own_via (fun t k => XS.astoreN X1.here hx rfl (hb hby at_3) rfl rfl (l' := #[.val (.int p0), .val (.int p1), .val (.int p2), .val (.ref b1), .unset, .unset, .unset, .unset, .unset, .unset, .unset, .unset, .unset, .unset, .unset, .unset, .unset, .unset, .unset]) rfl k) ?_
  show OwnEnds p.tables e below _ (T1.setTop (mkF m 4 #[.val (.int p0), .val (.int p1), .val (.int p2), .val (.ref b1), .unset, .unset, .unset, .unset, .unset, .unset, .unset, .unset, .unset, .unset, .unset, .unset, .unset, .unset, .unset] []))
  refine own_via (fun t k => XS.aloadN X1.here hx rfl (hb hby at_4) rfl rfl k) ?_
  show OwnEnds p.tables e below _ (T1.setTop (mkF m 5 #[.val (.int p0), .val (.int p1), .val (.int p2), .val (.ref b1), .unset, .unset, .unset, .unset, .unset, .unset, .unset, .unset, .unset, .unset, .unset, .unset, .unset, .unset, .unset] [(.ref b1)]))
  refine own_via (fun t k => XS.iconst X1.here hx rfl (hb hby at_5) k) ?_
  show OwnEnds p.tables e below _ (T1.setTop (mkF m 6 #[.val (.int p0), .val (.int p1), .val (.int p2), .val (.ref b1), .unset, .unset, .unset, .unset, .unset, .unset, .unset, .unset, .unset, .unset, .unset, .unset, .unset, .unset, .unset] [(.int (0 : Int32)), (.ref b1)]))
  refine own_via (fun t k => XS.iloadN X1.here hx rfl (hb hby at_6) rfl k) ?_
  show OwnEnds p.tables e below _ (T1.setTop (mkF m 7 #[.val (.int p0), .val (.int p1), .val (.int p2), .val (.ref b1), .unset, .unset, .unset, .unset, .unset, .unset, .unset, .unset, .unset, .unset, .unset, .unset, .unset, .unset, .unset] [(.int p0), (.int (0 : Int32)), (.ref b1)]))
  refine own_via (fun t k => XS.i2b X1.here hx rfl (hb hby at_7) rfl k) ?_
  show OwnEnds p.tables e below _ (T1.setTop (mkF m 8 #[.val (.int p0), .val (.int p1), .val (.int p2), .val (.ref b1), .unset, .unset, .unset, .unset, .unset, .unset, .unset, .unset, .unset, .unset, .unset, .unset, .unset, .unset, .unset] [(.int (p0.toInt8.toInt32)), (.int (0 : Int32)), (.ref b1)]))
  obtain ⟨T2, h2, X2, e2, W2, AA2, st2⟩ := own_stB X1 hx hZ e1 A_b1 0 rfl (Nat.le_of_ble_eq_true rfl) (g := (mkF m 8 #[.val (.int p0), .val (.int p1), .val (.int p2), .val (.ref b1), .unset, .unset, .unset, .unset, .unset, .unset, .unset, .unset, .unset, .unset, .unset, .unset, .unset, .unset, .unset] [(.int (p0.toInt8.toInt32)), (.int (0 : Int32)), (.ref b1)])) rfl rfl (hb hby at_8)
  replace A_na := A_na.other W2 ne_na_b1
  replace O0 := O0.wr W2 g_b1
  have Zs_W2 : n0 ≤ _ := Nat.le_trans Zs_1 (Keep.of_wr W2).1
  replace A_b1 : AL Z h2 b1 .byte [(.int (nar .byte (p0.toInt8.toInt32))), (.int (0 : Int32)), (.int (0 : Int32)), (.int (0 : Int32)), (.int (0 : Int32))] := AA2
  have N2 := Fr.snoc X2 N0 g_b1
  refine own_via st2 ?_
  show OwnEnds p.tables e below _ (T2.setTop (mkF m 9 #[.val (.int p0), .val (.int p1), .val (.int p2), .val (.ref b1), .unset, .unset, .unset, .unset, .unset, .unset, .unset, .unset, .unset, .unset, .unset, .unset, .unset, .unset, .unset] []))
  refine own_via (fun t k => XS.aloadN X2.here hx rfl (hb hby at_9) rfl rfl k) ?_
  show OwnEnds p.tables e below _ (T2.setTop (mkF m 10 #[.val (.int p0), .val (.int p1), .val (.int p2), .val (.ref b1), .unset, .unset, .unset, .unset, .unset, .unset, .unset, .unset, .unset, .unset, .unset, .unset, .unset, .unset, .unset] [(.ref b1)]))
  refine own_via (fun t k => XS.iconst X2.here hx rfl (hb hby at_10) k) ?_
  show OwnEnds p.tables e below _ (T2.setTop (mkF m 11 #[.val (.int p0), .val (.int p1), .val (.int p2), .val (.ref b1), .unset, .unset, .unset, .unset, .unset, .unset, .unset, .unset, .unset, .unset, .unset, .unset, .unset, .unset, .unset] [(.int (1 : Int32)), (.ref b1)]))
  refine own_via (fun t k => XS.iloadN X2.here hx rfl (hb hby at_11) rfl k) ?_
  show OwnEnds p.tables e below _ (T2.setTop (mkF m 12 #[.val (.int p0), .val (.int p1), .val (.int p2), .val (.ref b1), .unset, .unset, .unset, .unset, .unset, .unset, .unset, .unset, .unset, .unset, .unset, .unset, .unset, .unset, .unset] [(.int p0), (.int (1 : Int32)), (.ref b1)]))
  refine own_via (fun t k => XS.bipush X2.here hx rfl (hb hby at_12) k) ?_
  show OwnEnds p.tables e below _ (T2.setTop (mkF m 14 #[.val (.int p0), .val (.int p1), .val (.int p2), .val (.ref b1), .unset, .unset, .unset, .unset, .unset, .unset, .unset, .unset, .unset, .unset, .unset, .unset, .unset, .unset, .unset] [(.int (8 : Int32)), (.int p0), (.int (1 : Int32)), (.ref b1)]))
  refine own_via (fun t k => XS.iushr X2.here hx rfl (hb hby at_14) rfl k) ?_
  show OwnEnds p.tables e below _ (T2.setTop (mkF m 15 #[.val (.int p0), .val (.int p1), .val (.int p2), .val (.ref b1), .unset, .unset, .unset, .unset, .unset, .unset, .unset, .unset, .unset, .unset, .unset, .unset, .unset, .unset, .unset] [(.int ((p0.toUInt32 >>> ((8 : Int32) &&& 31).toUInt32).toInt32)), (.int (1 : Int32)), (.ref b1)]))
  refine own_via (fun t k => XS.i2b X2.here hx rfl (hb hby at_15) rfl k) ?_
  show OwnEnds p.tables e below _ (T2.setTop (mkF m 16 #[.val (.int p0), .val (.int p1), .val (.int p2), .val (.ref b1), .unset, .unset, .unset, .unset, .unset, .unset, .unset, .unset, .unset, .unset, .unset, .unset, .unset, .unset, .unset] [(.int (((p0.toUInt32 >>> ((8 : Int32) &&& 31).toUInt32).toInt32).toInt8.toInt32)), (.int (1 : Int32)), (.ref b1)]))
  obtain ⟨T3, h3, X3, e3, W3, AA3, st3⟩ := own_stB X2 hx hZ e2 A_b1 1 rfl (Nat.le_of_ble_eq_true rfl) (g := (mkF m 16 #[.val (.int p0), .val (.int p1), .val (.int p2), .val (.ref b1), .unset, .unset, .unset, .unset, .unset, .unset, .unset, .unset, .unset, .unset, .unset, .unset, .unset, .unset, .unset] [(.int (((p0.toUInt32 >>> ((8 : Int32) &&& 31).toUInt32).toInt32).toInt8.toInt32)), (.int (1 : Int32)), (.ref b1)])) rfl rfl (hb hby at_16)
  replace A_na := A_na.other W3 ne_na_b1
  replace O0 := O0.wr W3 g_b1
  have Zs_W3 : n0 ≤ _ := Nat.le_trans Zs_W2 (Keep.of_wr W3).1
  replace A_b1 : AL Z h3 b1 .byte [(.int (nar .byte (p0.toInt8.toInt32))), (.int (nar .byte (((p0.toUInt32 >>> ((8 : Int32) &&& 31).toUInt32).toInt32).toInt8.toInt32))), (.int (0 : Int32)), (.int (0 : Int32)), (.int (0 : Int32))] := AA3
  have N3 := Fr.snoc X3 N2 g_b1
  refine own_via st3 ?_
  show OwnEnds p.tables e below _ (T3.setTop (mkF m 17 #[.val (.int p0), .val (.int p1), .val (.int p2), .val (.ref b1), .unset, .unset, .unset, .unset, .unset, .unset, .unset, .unset, .unset, .unset, .unset, .unset, .unset, .unset, .unset] []))
  refine own_via (fun t k => XS.aloadN X3.here hx rfl (hb hby at_17) rfl rfl k) ?_
  show OwnEnds p.tables e below _ (T3.setTop (mkF m 18 #[.val (.int p0), .val (.int p1), .val (.int p2), .val (.ref b1), .unset, .unset, .unset, .unset, .unset, .unset, .unset, .unset, .unset, .unset, .unset, .unset, .unset, .unset, .unset] [(.ref b1)]))
  refine own_via (fun t k => XS.iconst X3.here hx rfl (hb hby at_18) k) ?_
  show OwnEnds p.tables e below _ (T3.setTop (mkF m 19 #[.val (.int p0), .val (.int p1), .val (.int p2), .val (.ref b1), .unset, .unset, .unset, .unset, .unset, .unset, .unset, .unset, .unset, .unset, .unset, .unset, .unset, .unset, .unset] [(.int (2 : Int32)), (.ref b1)]))
  refine own_via (fun t k => XS.iloadN X3.here hx rfl (hb hby at_19) rfl k) ?_
  show OwnEnds p.tables e below _ (T3.setTop (mkF m 20 #[.val (.int p0), .val (.int p1), .val (.int p2), .val (.ref b1), .unset, .unset, .unset, .unset, .unset, .unset, .unset, .unset, .unset, .unset, .unset, .unset, .unset, .unset, .unset] [(.int p0), (.int (2 : Int32)), (.ref b1)]))
  refine own_via (fun t k => XS.bipush X3.here hx rfl (hb hby at_20) k) ?_
  show OwnEnds p.tables e below _ (T3.setTop (mkF m 22 #[.val (.int p0), .val (.int p1), .val (.int p2), .val (.ref b1), .unset, .unset, .unset, .unset, .unset, .unset, .unset, .unset, .unset, .unset, .unset, .unset, .unset, .unset, .unset] [(.int (16 : Int32)), (.int p0), (.int (2 : Int32)), (.ref b1)]))
  refine own_via (fun t k => XS.iushr X3.here hx rfl (hb hby at_22) rfl k) ?_
  show OwnEnds p.tables e below _ (T3.setTop (mkF m 23 #[.val (.int p0), .val (.int p1), .val (.int p2), .val (.ref b1), .unset, .unset, .unset, .unset, .unset, .unset, .unset, .unset, .unset, .unset, .unset, .unset, .unset, .unset, .unset] [(.int ((p0.toUInt32 >>> ((16 : Int32) &&& 31).toUInt32).toInt32)), (.int (2 : Int32)), (.ref b1)]))
  refine own_via (fun t k => XS.i2b X3.here hx rfl (hb hby at_23) rfl k) ?_
  show OwnEnds p.tables e below _ (T3.setTop (mkF m 24 #[.val (.int p0), .val (.int p1), .val (.int p2), .val (.ref b1), .unset, .unset, .unset, .unset, .unset, .unset, .unset, .unset, .unset, .unset, .unset, .unset, .unset, .unset, .unset] [(.int (((p0.toUInt32 >>> ((16 : Int32) &&& 31).toUInt32).toInt32).toInt8.toInt32)), (.int (2 : Int32)), (.ref b1)]))
  obtain ⟨T4, h4, X4, e4, W4, AA4, st4⟩ := own_stB X3 hx hZ e3 A_b1 2 rfl (Nat.le_of_ble_eq_true rfl) (g := (mkF m 24 #[.val (.int p0), .val (.int p1), .val (.int p2), .val (.ref b1), .unset, .unset, .unset, .unset, .unset, .unset, .unset, .unset, .unset, .unset, .unset, .unset, .unset, .unset, .unset] [(.int (((p0.toUInt32 >>> ((16 : Int32) &&& 31).toUInt32).toInt32).toInt8.toInt32)), (.int (2 : Int32)), (.ref b1)])) rfl rfl (hb hby at_24)
  replace A_na := A_na.other W4 ne_na_b1
  replace O0 := O0.wr W4 g_b1
  have Zs_W4 : n0 ≤ _ := Nat.le_trans Zs_W3 (Keep.of_wr W4).1
  replace A_b1 : AL Z h4 b1 .byte [(.int (nar .byte (p0.toInt8.toInt32))), (.int (nar .byte (((p0.toUInt32 >>> ((8 : Int32) &&& 31).toUInt32).toInt32).toInt8.toInt32))), (.int (nar .byte (((p0.toUInt32 >>> ((16 : Int32) &&& 31).toUInt32).toInt32).toInt8.toInt32))), (.int (0 : Int32)), (.int (0 : Int32))] := AA4
  have N4 := Fr.snoc X4 N3 g_b1
  refine own_via st4 ?_
  show OwnEnds p.tables e below _ (T4.setTop (mkF m 25 #[.val (.int p0), .val (.int p1), .val (.int p2), .val (.ref b1), .unset, .unset, .unset, .unset, .unset, .unset, .unset, .unset, .unset, .unset, .unset, .unset, .unset, .unset, .unset] []))
  refine own_via (fun t k => XS.aloadN X4.here hx rfl (hb hby at_25) rfl rfl k) ?_
  show OwnEnds p.tables e below _ (T4.setTop (mkF m 26 #[.val (.int p0), .val (.int p1), .val (.int p2), .val (.ref b1), .unset, .unset, .unset, .unset, .unset, .unset, .unset, .unset, .unset, .unset, .unset, .unset, .unset, .unset, .unset] [(.ref b1)]))
  refine own_via (fun t k => XS.iconst X4.here hx rfl (hb hby at_26) k) ?_
  show OwnEnds p.tables e below _ (T4.setTop (mkF m 27 #[.val (.int p0), .val (.int p1), .val (.int p2), .val (.ref b1), .unset, .unset, .unset, .unset, .unset, .unset, .unset, .unset, .unset, .unset, .unset, .unset, .unset, .unset, .unset] [(.int (3 : Int32)), (.ref b1)]))
  refine own_via (fun t k => XS.iloadN X4.here hx rfl (hb hby at_27) rfl k) ?_
  show OwnEnds p.tables e below _ (T4.setTop (mkF m 28 #[.val (.int p0), .val (.int p1), .val (.int p2), .val (.ref b1), .unset, .unset, .unset, .unset, .unset, .unset, .unset, .unset, .unset, .unset, .unset, .unset, .unset, .unset, .unset] [(.int p0), (.int (3 : Int32)), (.ref b1)]))
  refine own_via (fun t k => XS.bipush X4.here hx rfl (hb hby at_28) k) ?_
  show OwnEnds p.tables e below _ (T4.setTop (mkF m 30 #[.val (.int p0), .val (.int p1), .val (.int p2), .val (.ref b1), .unset, .unset, .unset, .unset, .unset, .unset, .unset, .unset, .unset, .unset, .unset, .unset, .unset, .unset, .unset] [(.int (24 : Int32)), (.int p0), (.int (3 : Int32)), (.ref b1)]))
  refine own_via (fun t k => XS.iushr X4.here hx rfl (hb hby at_30) rfl k) ?_
  show OwnEnds p.tables e below _ (T4.setTop (mkF m 31 #[.val (.int p0), .val (.int p1), .val (.int p2), .val (.ref b1), .unset, .unset, .unset, .unset, .unset, .unset, .unset, .unset, .unset, .unset, .unset, .unset, .unset, .unset, .unset] [(.int ((p0.toUInt32 >>> ((24 : Int32) &&& 31).toUInt32).toInt32)), (.int (3 : Int32)), (.ref b1)]))
  refine own_via (fun t k => XS.i2b X4.here hx rfl (hb hby at_31) rfl k) ?_
  show OwnEnds p.tables e below _ (T4.setTop (mkF m 32 #[.val (.int p0), .val (.int p1), .val (.int p2), .val (.ref b1), .unset, .unset, .unset, .unset, .unset, .unset, .unset, .unset, .unset, .unset, .unset, .unset, .unset, .unset, .unset] [(.int (((p0.toUInt32 >>> ((24 : Int32) &&& 31).toUInt32).toInt32).toInt8.toInt32)), (.int (3 : Int32)), (.ref b1)]))
  obtain ⟨T5, h5, X5, e5, W5, AA5, st5⟩ := own_stB X4 hx hZ e4 A_b1 3 rfl (Nat.le_of_ble_eq_true rfl) (g := (mkF m 32 #[.val (.int p0), .val (.int p1), .val (.int p2), .val (.ref b1), .unset, .unset, .unset, .unset, .unset, .unset, .unset, .unset, .unset, .unset, .unset, .unset, .unset, .unset, .unset] [(.int (((p0.toUInt32 >>> ((24 : Int32) &&& 31).toUInt32).toInt32).toInt8.toInt32)), (.int (3 : Int32)), (.ref b1)])) rfl rfl (hb hby at_32)
  replace A_na := A_na.other W5 ne_na_b1
  replace O0 := O0.wr W5 g_b1
  have Zs_W5 : n0 ≤ _ := Nat.le_trans Zs_W4 (Keep.of_wr W5).1
  replace A_b1 : AL Z h5 b1 .byte [(.int (nar .byte (p0.toInt8.toInt32))), (.int (nar .byte (((p0.toUInt32 >>> ((8 : Int32) &&& 31).toUInt32).toInt32).toInt8.toInt32))), (.int (nar .byte (((p0.toUInt32 >>> ((16 : Int32) &&& 31).toUInt32).toInt32).toInt8.toInt32))), (.int (nar .byte (((p0.toUInt32 >>> ((24 : Int32) &&& 31).toUInt32).toInt32).toInt8.toInt32))), (.int (0 : Int32))] := AA5
  have N5 := Fr.snoc X5 N4 g_b1
  refine own_via st5 ?_
  show OwnEnds p.tables e below _ (T5.setTop (mkF m 33 #[.val (.int p0), .val (.int p1), .val (.int p2), .val (.ref b1), .unset, .unset, .unset, .unset, .unset, .unset, .unset, .unset, .unset, .unset, .unset, .unset, .unset, .unset, .unset] []))
  refine own_via (fun t k => XS.aloadN X5.here hx rfl (hb hby at_33) rfl rfl k) ?_
  show OwnEnds p.tables e below _ (T5.setTop (mkF m 34 #[.val (.int p0), .val (.int p1), .val (.int p2), .val (.ref b1), .unset, .unset, .unset, .unset, .unset, .unset, .unset, .unset, .unset, .unset, .unset, .unset, .unset, .unset, .unset] [(.ref b1)]))
  refine own_via (fun t k => XS.iconst X5.here hx rfl (hb hby at_34) k) ?_
  show OwnEnds p.tables e below _ (T5.setTop (mkF m 35 #[.val (.int p0), .val (.int p1), .val (.int p2), .val (.ref b1), .unset, .unset, .unset, .unset, .unset, .unset, .unset, .unset, .unset, .unset, .unset, .unset, .unset, .unset, .unset] [(.int (4 : Int32)), (.ref b1)]))
  refine own_via (fun t k => XS.iloadN X5.here hx rfl (hb hby at_35) rfl k) ?_
  show OwnEnds p.tables e below _ (T5.setTop (mkF m 36 #[.val (.int p0), .val (.int p1), .val (.int p2), .val (.ref b1), .unset, .unset, .unset, .unset, .unset, .unset, .unset, .unset, .unset, .unset, .unset, .unset, .unset, .unset, .unset] [(.int p1), (.int (4 : Int32)), (.ref b1)]))
  refine own_via (fun t k => XS.i2b X5.here hx rfl (hb hby at_36) rfl k) ?_
  show OwnEnds p.tables e below _ (T5.setTop (mkF m 37 #[.val (.int p0), .val (.int p1), .val (.int p2), .val (.ref b1), .unset, .unset, .unset, .unset, .unset, .unset, .unset, .unset, .unset, .unset, .unset, .unset, .unset, .unset, .unset] [(.int (p1.toInt8.toInt32)), (.int (4 : Int32)), (.ref b1)]))
  obtain ⟨T6, h6, X6, e6, W6, AA6, st6⟩ := own_stB X5 hx hZ e5 A_b1 4 rfl (Nat.le_of_ble_eq_true rfl) (g := (mkF m 37 #[.val (.int p0), .val (.int p1), .val (.int p2), .val (.ref b1), .unset, .unset, .unset, .unset, .unset, .unset, .unset, .unset, .unset, .unset, .unset, .unset, .unset, .unset, .unset] [(.int (p1.toInt8.toInt32)), (.int (4 : Int32)), (.ref b1)])) rfl rfl (hb hby at_37)
  replace A_na := A_na.other W6 ne_na_b1
  replace O0 := O0.wr W6 g_b1
  have Zs_W6 : n0 ≤ _ := Nat.le_trans Zs_W5 (Keep.of_wr W6).1
  replace A_b1 : AL Z h6 b1 .byte [(.int (nar .byte (p0.toInt8.toInt32))), (.int (nar .byte (((p0.toUInt32 >>> ((8 : Int32) &&& 31).toUInt32).toInt32).toInt8.toInt32))), (.int (nar .byte (((p0.toUInt32 >>> ((16 : Int32) &&& 31).toUInt32).toInt32).toInt8.toInt32))), (.int (nar .byte (((p0.toUInt32 >>> ((24 : Int32) &&& 31).toUInt32).toInt32).toInt8.toInt32))), (.int (nar .byte (p1.toInt8.toInt32)))] := AA6
  have N6 := Fr.snoc X6 N5 g_b1
  refine own_via st6 ?_
  show OwnEnds p.tables e below _ (T6.setTop (mkF m 38 #[.val (.int p0), .val (.int p1), .val (.int p2), .val (.ref b1), .unset, .unset, .unset, .unset, .unset, .unset, .unset, .unset, .unset, .unset, .unset, .unset, .unset, .unset, .unset] []))
  refine own_via (fun t k => XS.iconst X6.here hx rfl (hb hby at_38) k) ?_
  show OwnEnds p.tables e below _ (T6.setTop (mkF m 39 #[.val (.int p0), .val (.int p1), .val (.int p2), .val (.ref b1), .unset, .unset, .unset, .unset, .unset, .unset, .unset, .unset, .unset, .unset, .unset, .unset, .unset, .unset, .unset] [(.int (1 : Int32))]))
  refine own_via (fun t k => XS.iloadN X6.here hx rfl (hb hby at_39) rfl k) ?_
  show OwnEnds p.tables e below _ (T6.setTop (mkF m 40 #[.val (.int p0), .val (.int p1), .val (.int p2), .val (.ref b1), .unset, .unset, .unset, .unset, .unset, .unset, .unset, .unset, .unset, .unset, .unset, .unset, .unset, .unset, .unset] [(.int p2), (.int (1 : Int32))]))
  refine own_via (fun t k => XS.iconst X6.here hx rfl (hb hby at_40) k) ?_
  show OwnEnds p.tables e below _ (T6.setTop (mkF m 41 #[.val (.int p0), .val (.int p1), .val (.int p2), .val (.ref b1), .unset, .unset, .unset, .unset, .unset, .unset, .unset, .unset, .unset, .unset, .unset, .unset, .unset, .unset, .unset] [(.int (3 : Int32)), (.int p2), (.int (1 : Int32))]))
  refine own_via (fun t k => XS.iand X6.here hx rfl (hb hby at_41) rfl k) ?_
  show OwnEnds p.tables e below _ (T6.setTop (mkF m 42 #[.val (.int p0), .val (.int p1), .val (.int p2), .val (.ref b1), .unset, .unset, .unset, .unset, .unset, .unset, .unset, .unset, .unset, .unset, .unset, .unset, .unset, .unset, .unset] [(.int (p2 &&& (3 : Int32))), (.int (1 : Int32))]))
  refine own_via (fun t k => XS.iadd X6.here hx rfl (hb hby at_42) rfl k) ?_
  show OwnEnds p.tables e below _ (T6.setTop (mkF m 43 #[.val (.int p0), .val (.int p1), .val (.int p2), .val (.ref b1), .unset, .unset, .unset, .unset, .unset, .unset, .unset, .unset, .unset, .unset, .unset, .unset, .unset, .unset, .unset] [(.int ((1 : Int32) + (p2 &&& (3 : Int32))))]))
  obtain ⟨wv, h_wv⟩ : ∃ z, z = ((1 : Int32) + (p2 &&& (3 : Int32))) := ⟨_, rfl⟩
  rw [← h_wv]
  refine own_via (fun t k => XS.istore X6.here hx rfl (hb hby at_43) rfl (l' := #[.val (.int p0), .val (.int p1), .val (.int p2), .val (.ref b1), .val (.int wv), .unset, .unset, .unset, .unset, .unset, .unset, .unset, .unset, .unset, .unset, .unset, .unset, .unset, .unset]) rfl k) ?_
  show OwnEnds p.tables e below _ (T6.setTop (mkF m 45 #[.val (.int p0), .val (.int p1), .val (.int p2), .val (.ref b1), .val (.int wv), .unset, .unset, .unset, .unset, .unset, .unset, .unset, .unset, .unset, .unset, .unset, .unset, .unset, .unset] []))
  refine own_via (fun t k => XS.iloadN X6.here hx rfl (hb hby at_45) rfl k) ?_
  show OwnEnds p.tables e below _ (T6.setTop (mkF m 46 #[.val (.int p0), .val (.int p1), .val (.int p2), .val (.ref b1), .val (.int wv), .unset, .unset, .unset, .unset, .unset, .unset, .unset, .unset, .unset, .unset, .unset, .unset, .unset, .unset] [(.int p2)]))
  refine own_via (fun t k => XS.iconst X6.here hx rfl (hb hby at_46) k) ?_
  show OwnEnds p.tables e below _ (T6.setTop (mkF m 47 #[.val (.int p0), .val (.int p1), .val (.int p2), .val (.ref b1), .val (.int wv), .unset, .unset, .unset, .unset, .unset, .unset, .unset, .unset, .unset, .unset, .unset, .unset, .unset, .unset] [(.int (2 : Int32)), (.int p2)]))
  refine own_via (fun t k => XS.iushr X6.here hx rfl (hb hby at_47) rfl k) ?_
  show OwnEnds p.tables e below _ (T6.setTop (mkF m 48 #[.val (.int p0), .val (.int p1), .val (.int p2), .val (.ref b1), .val (.int wv), .unset, .unset, .unset, .unset, .unset, .unset, .unset, .unset, .unset, .unset, .unset, .unset, .unset, .unset] [(.int ((p2.toUInt32 >>> ((2 : Int32) &&& 31).toUInt32).toInt32))]))
  refine own_via (fun t k => XS.bipush X6.here hx rfl (hb hby at_48) k) ?_
  show OwnEnds p.tables e below _ (T6.setTop (mkF m 50 #[.val (.int p0), .val (.int p1), .val (.int p2), .val (.ref b1), .val (.int wv), .unset, .unset, .unset, .unset, .unset, .unset, .unset, .unset, .unset, .unset, .unset, .unset, .unset, .unset] [(.int (7 : Int32)), (.int ((p2.toUInt32 >>> ((2 : Int32) &&& 31).toUInt32).toInt32))]))
  refine own_via (fun t k => XS.iand X6.here hx rfl (hb hby at_50) rfl k) ?_
  show OwnEnds p.tables e below _ (T6.setTop (mkF m 51 #[.val (.int p0), .val (.int p1), .val (.int p2), .val (.ref b1), .val (.int wv), .unset, .unset, .unset, .unset, .unset, .unset, .unset, .unset, .unset, .unset, .unset, .unset, .unset, .unset] [(.int (((p2.toUInt32 >>> ((2 : Int32) &&& 31).toUInt32).toInt32) &&& (7 : Int32)))]))
  refine own_via (fun t k => XS.bipush X6.here hx rfl (hb hby at_51) k) ?_
  show OwnEnds p.tables e below _ (T6.setTop (mkF m 53 #[.val (.int p0), .val (.int p1), .val (.int p2), .val (.ref b1), .val (.int wv), .unset, .unset, .unset, .unset, .unset, .unset, .unset, .unset, .unset, .unset, .unset, .unset, .unset, .unset] [(.int (6 : Int32)), (.int (((p2.toUInt32 >>> ((2 : Int32) &&& 31).toUInt32).toInt32) &&& (7 : Int32)))]))
  refine own_via (fun t k => XS.iload X6.here hx rfl (hb hby at_53) rfl k) ?_
  show OwnEnds p.tables e below _ (T6.setTop (mkF m 55 #[.val (.int p0), .val (.int p1), .val (.int p2), .val (.ref b1), .val (.int wv), .unset, .unset, .unset, .unset, .unset, .unset, .unset, .unset, .unset, .unset, .unset, .unset, .unset, .unset] [(.int wv), (.int (6 : Int32)), (.int (((p2.toUInt32 >>> ((2 : Int32) &&& 31).toUInt32).toInt32) &&& (7 : Int32)))]))
  refine own_via (fun t k => XS.isub X6.here hx rfl (hb hby at_55) rfl k) ?_
  show OwnEnds p.tables e below _ (T6.setTop (mkF m 56 #[.val (.int p0), .val (.int p1), .val (.int p2), .val (.ref b1), .val (.int wv), .unset, .unset, .unset, .unset, .unset, .unset, .unset, .unset, .unset, .unset, .unset, .unset, .unset, .unset] [(.int ((6 : Int32) - wv)), (.int (((p2.toUInt32 >>> ((2 : Int32) &&& 31).toUInt32).toInt32) &&& (7 : Int32)))]))
  refine own_via (fun t k => Jvm.RoadKit.iremM X6 hx rfl (hb hby at_56) rfl (own_nz6 h_wv) k) ?_
  show OwnEnds p.tables e below _ (T6.setTop (mkF m 57 #[.val (.int p0), .val (.int p1), .val (.int p2), .val (.ref b1), .val (.int wv), .unset, .unset, .unset, .unset, .unset, .unset, .unset, .unset, .unset, .unset, .unset, .unset, .unset, .unset] [(.int ((((p2.toUInt32 >>> ((2 : Int32) &&& 31).toUInt32).toInt32) &&& (7 : Int32)) % ((6 : Int32) - wv)))]))
  obtain ⟨ov, h_ov⟩ : ∃ z, z = ((((p2.toUInt32 >>> ((2 : Int32) &&& 31).toUInt32).toInt32) &&& (7 : Int32)) % ((6 : Int32) - wv)) := ⟨_, rfl⟩
  rw [← h_ov]
  refine own_via (fun t k => XS.istore X6.here hx rfl (hb hby at_57) rfl (l' := #[.val (.int p0), .val (.int p1), .val (.int p2), .val (.ref b1), .val (.int wv), .val (.int ov), .unset, .unset, .unset, .unset, .unset, .unset, .unset, .unset, .unset, .unset, .unset, .unset, .unset]) rfl k) ?_
  show OwnEnds p.tables e below _ (T6.setTop (mkF m 59 #[.val (.int p0), .val (.int p1), .val (.int p2), .val (.ref b1), .val (.int wv), .val (.int ov), .unset, .unset, .unset, .unset, .unset, .unset, .unset, .unset, .unset, .unset, .unset, .unset, .unset] []))
  refine own_via (fun t k => XS.iloadN X6.here hx rfl (hb hby at_59) rfl k) ?_
  show OwnEnds p.tables e below _ (T6.setTop (mkF m 60 #[.val (.int p0), .val (.int p1), .val (.int p2), .val (.ref b1), .val (.int wv), .val (.int ov), .unset, .unset, .unset, .unset, .unset, .unset, .unset, .unset, .unset, .unset, .unset, .unset, .unset] [(.int p2)]))
  refine own_via (fun t k => XS.iconst X6.here hx rfl (hb hby at_60) k) ?_
  show OwnEnds p.tables e below _ (T6.setTop (mkF m 61 #[.val (.int p0), .val (.int p1), .val (.int p2), .val (.ref b1), .val (.int wv), .val (.int ov), .unset, .unset, .unset, .unset, .unset, .unset, .unset, .unset, .unset, .unset, .unset, .unset, .unset] [(.int (5 : Int32)), (.int p2)]))
  refine own_via (fun t k => XS.iushr X6.here hx rfl (hb hby at_61) rfl k) ?_
  show OwnEnds p.tables e below _ (T6.setTop (mkF m 62 #[.val (.int p0), .val (.int p1), .val (.int p2), .val (.ref b1), .val (.int wv), .val (.int ov), .unset, .unset, .unset, .unset, .unset, .unset, .unset, .unset, .unset, .unset, .unset, .unset, .unset] [(.int ((p2.toUInt32 >>> ((5 : Int32) &&& 31).toUInt32).toInt32))]))
  refine own_via (fun t k => XS.bipush X6.here hx rfl (hb hby at_62) k) ?_
  show OwnEnds p.tables e below _ (T6.setTop (mkF m 64 #[.val (.int p0), .val (.int p1), .val (.int p2), .val (.ref b1), .val (.int wv), .val (.int ov), .unset, .unset, .unset, .unset, .unset, .unset, .unset, .unset, .unset, .unset, .unset, .unset, .unset] [(.int (7 : Int32)), (.int ((p2.toUInt32 >>> ((5 : Int32) &&& 31).toUInt32).toInt32))]))
  refine own_via (fun t k => XS.iand X6.here hx rfl (hb hby at_64) rfl k) ?_
  show OwnEnds p.tables e below _ (T6.setTop (mkF m 65 #[.val (.int p0), .val (.int p1), .val (.int p2), .val (.ref b1), .val (.int wv), .val (.int ov), .unset, .unset, .unset, .unset, .unset, .unset, .unset, .unset, .unset, .unset, .unset, .unset, .unset] [(.int (((p2.toUInt32 >>> ((5 : Int32) &&& 31).toUInt32).toInt32) &&& (7 : Int32)))]))
  refine own_via (fun t k => XS.iload X6.here hx rfl (hb hby at_65) rfl k) ?_
  show OwnEnds p.tables e below _ (T6.setTop (mkF m 67 #[.val (.int p0), .val (.int p1), .val (.int p2), .val (.ref b1), .val (.int wv), .val (.int ov), .unset, .unset, .unset, .unset, .unset, .unset, .unset, .unset, .unset, .unset, .unset, .unset, .unset] [(.int wv), (.int (((p2.toUInt32 >>> ((5 : Int32) &&& 31).toUInt32).toInt32) &&& (7 : Int32)))]))
  refine own_via (fun t k => Jvm.RoadKit.iremM X6 hx rfl (hb hby at_67) rfl (own_nz1 h_wv) k) ?_
  show OwnEnds p.tables e below _ (T6.setTop (mkF m 68 #[.val (.int p0), .val (.int p1), .val (.int p2), .val (.ref b1), .val (.int wv), .val (.int ov), .unset, .unset, .unset, .unset, .unset, .unset, .unset, .unset, .unset, .unset, .unset, .unset, .unset] [(.int ((((p2.toUInt32 >>> ((5 : Int32) &&& 31).toUInt32).toInt32) &&& (7 : Int32)) % wv))]))
  obtain ⟨fv, h_fv⟩ : ∃ z, z = ((((p2.toUInt32 >>> ((5 : Int32) &&& 31).toUInt32).toInt32) &&& (7 : Int32)) % wv) := ⟨_, rfl⟩
  rw [← h_fv]
  refine own_via (fun t k => XS.istore X6.here hx rfl (hb hby at_68) rfl (l' := #[.val (.int p0), .val (.int p1), .val (.int p2), .val (.ref b1), .val (.int wv), .val (.int ov), .val (.int fv), .unset, .unset, .unset, .unset, .unset, .unset, .unset, .unset, .unset, .unset, .unset, .unset]) rfl k) ?_
  show OwnEnds p.tables e below _ (T6.setTop (mkF m 70 #[.val (.int p0), .val (.int p1), .val (.int p2), .val (.ref b1), .val (.int wv), .val (.int ov), .val (.int fv), .unset, .unset, .unset, .unset, .unset, .unset, .unset, .unset, .unset, .unset, .unset, .unset] []))
  refine own_via (fun t k => XS.iload X6.here hx rfl (hb hby at_70) rfl k) ?_
  show OwnEnds p.tables e below _ (T6.setTop (mkF m 72 #[.val (.int p0), .val (.int p1), .val (.int p2), .val (.ref b1), .val (.int wv), .val (.int ov), .val (.int fv), .unset, .unset, .unset, .unset, .unset, .unset, .unset, .unset, .unset, .unset, .unset, .unset] [(.int fv)]))
  refine own_via (fun t k => XS.iconst X6.here hx rfl (hb hby at_72) k) ?_
  show OwnEnds p.tables e below _ (T6.setTop (mkF m 73 #[.val (.int p0), .val (.int p1), .val (.int p2), .val (.ref b1), .val (.int wv), .val (.int ov), .val (.int fv), .unset, .unset, .unset, .unset, .unset, .unset, .unset, .unset, .unset, .unset, .unset, .unset] [(.int (1 : Int32)), (.int fv)]))
  refine own_via (fun t k => XS.iadd X6.here hx rfl (hb hby at_73) rfl k) ?_
  show OwnEnds p.tables e below _ (T6.setTop (mkF m 74 #[.val (.int p0), .val (.int p1), .val (.int p2), .val (.ref b1), .val (.int wv), .val (.int ov), .val (.int fv), .unset, .unset, .unset, .unset, .unset, .unset, .unset, .unset, .unset, .unset, .unset, .unset] [(.int (fv + (1 : Int32)))]))
  refine own_via (fun t k => XS.iloadN X6.here hx rfl (hb hby at_74) rfl k) ?_
  show OwnEnds p.tables e below _ (T6.setTop (mkF m 75 #[.val (.int p0), .val (.int p1), .val (.int p2), .val (.ref b1), .val (.int wv), .val (.int ov), .val (.int fv), .unset, .unset, .unset, .unset, .unset, .unset, .unset, .unset, .unset, .unset, .unset, .unset] [(.int p2), (.int (fv + (1 : Int32)))]))
  refine own_via (fun t k => XS.bipush X6.here hx rfl (hb hby at_75) k) ?_
  show OwnEnds p.tables e below _ (T6.setTop (mkF m 77 #[.val (.int p0), .val (.int p1), .val (.int p2), .val (.ref b1), .val (.int wv), .val (.int ov), .val (.int fv), .unset, .unset, .unset, .unset, .unset, .unset, .unset, .unset, .unset, .unset, .unset, .unset] [(.int (8 : Int32)), (.int p2), (.int (fv + (1 : Int32)))]))
  refine own_via (fun t k => XS.iushr X6.here hx rfl (hb hby at_77) rfl k) ?_
  show OwnEnds p.tables e below _ (T6.setTop (mkF m 78 #[.val (.int p0), .val (.int p1), .val (.int p2), .val (.ref b1), .val (.int wv), .val (.int ov), .val (.int fv), .unset, .unset, .unset, .unset, .unset, .unset, .unset, .unset, .unset, .unset, .unset, .unset] [(.int ((p2.toUInt32 >>> ((8 : Int32) &&& 31).toUInt32).toInt32)), (.int (fv + (1 : Int32)))]))
  refine own_via (fun t k => XS.bipush X6.here hx rfl (hb hby at_78) k) ?_
  show OwnEnds p.tables e below _ (T6.setTop (mkF m 80 #[.val (.int p0), .val (.int p1), .val (.int p2), .val (.ref b1), .val (.int wv), .val (.int ov), .val (.int fv), .unset, .unset, .unset, .unset, .unset, .unset, .unset, .unset, .unset, .unset, .unset, .unset] [(.int (7 : Int32)), (.int ((p2.toUInt32 >>> ((8 : Int32) &&& 31).toUInt32).toInt32)), (.int (fv + (1 : Int32)))]))
  refine own_via (fun t k => XS.iand X6.here hx rfl (hb hby at_80) rfl k) ?_
  show OwnEnds p.tables e below _ (T6.setTop (mkF m 81 #[.val (.int p0), .val (.int p1), .val (.int p2), .val (.ref b1), .val (.int wv), .val (.int ov), .val (.int fv), .unset, .unset, .unset, .unset, .unset, .unset, .unset, .unset, .unset, .unset, .unset, .unset] [(.int (((p2.toUInt32 >>> ((8 : Int32) &&& 31).toUInt32).toInt32) &&& (7 : Int32))), (.int (fv + (1 : Int32)))]))
  refine own_via (fun t k => XS.iload X6.here hx rfl (hb hby at_81) rfl k) ?_
  show OwnEnds p.tables e below _ (T6.setTop (mkF m 83 #[.val (.int p0), .val (.int p1), .val (.int p2), .val (.ref b1), .val (.int wv), .val (.int ov), .val (.int fv), .unset, .unset, .unset, .unset, .unset, .unset, .unset, .unset, .unset, .unset, .unset, .unset] [(.int wv), (.int (((p2.toUInt32 >>> ((8 : Int32) &&& 31).toUInt32).toInt32) &&& (7 : Int32))), (.int (fv + (1 : Int32)))]))
  refine own_via (fun t k => XS.iload X6.here hx rfl (hb hby at_83) rfl k) ?_
  show OwnEnds p.tables e below _ (T6.setTop (mkF m 85 #[.val (.int p0), .val (.int p1), .val (.int p2), .val (.ref b1), .val (.int wv), .val (.int ov), .val (.int fv), .unset, .unset, .unset, .unset, .unset, .unset, .unset, .unset, .unset, .unset, .unset, .unset] [(.int fv), (.int wv), (.int (((p2.toUInt32 >>> ((8 : Int32) &&& 31).toUInt32).toInt32) &&& (7 : Int32))), (.int (fv + (1 : Int32)))]))
  refine own_via (fun t k => XS.isub X6.here hx rfl (hb hby at_85) rfl k) ?_
  show OwnEnds p.tables e below _ (T6.setTop (mkF m 86 #[.val (.int p0), .val (.int p1), .val (.int p2), .val (.ref b1), .val (.int wv), .val (.int ov), .val (.int fv), .unset, .unset, .unset, .unset, .unset, .unset, .unset, .unset, .unset, .unset, .unset, .unset] [(.int (wv - fv)), (.int (((p2.toUInt32 >>> ((8 : Int32) &&& 31).toUInt32).toInt32) &&& (7 : Int32))), (.int (fv + (1 : Int32)))]))
  refine own_via (fun t k => Jvm.RoadKit.iremM X6 hx rfl (hb hby at_86) rfl (own_nzf h_wv h_fv) k) ?_
  show OwnEnds p.tables e below _ (T6.setTop (mkF m 87 #[.val (.int p0), .val (.int p1), .val (.int p2), .val (.ref b1), .val (.int wv), .val (.int ov), .val (.int fv), .unset, .unset, .unset, .unset, .unset, .unset, .unset, .unset, .unset, .unset, .unset, .unset] [(.int ((((p2.toUInt32 >>> ((8 : Int32) &&& 31).toUInt32).toInt32) &&& (7 : Int32)) % (wv - fv))), (.int (fv + (1 : Int32)))]))
  refine own_via (fun t k => XS.iadd X6.here hx rfl (hb hby at_87) rfl k) ?_
  show OwnEnds p.tables e below _ (T6.setTop (mkF m 88 #[.val (.int p0), .val (.int p1), .val (.int p2), .val (.ref b1), .val (.int wv), .val (.int ov), .val (.int fv), .unset, .unset, .unset, .unset, .unset, .unset, .unset, .unset, .unset, .unset, .unset, .unset] [(.int ((fv + (1 : Int32)) + ((((p2.toUInt32 >>> ((8 : Int32) &&& 31).toUInt32).toInt32) &&& (7 : Int32)) % (wv - fv))))]))
  obtain ⟨tv0, h_tv0⟩ : ∃ z, z = ((fv + (1 : Int32)) + ((((p2.toUInt32 >>> ((8 : Int32) &&& 31).toUInt32).toInt32) &&& (7 : Int32)) % (wv - fv))) := ⟨_, rfl⟩
  rw [← h_tv0]
  refine own_via (fun t k => XS.istore X6.here hx rfl (hb hby at_88) rfl (l' := #[.val (.int p0), .val (.int p1), .val (.int p2), .val (.ref b1), .val (.int wv), .val (.int ov), .val (.int fv), .val (.int tv0), .unset, .unset, .unset, .unset, .unset, .unset, .unset, .unset, .unset, .unset, .unset]) rfl k) ?_
  show OwnEnds p.tables e below _ (T6.setTop (mkF m 90 #[.val (.int p0), .val (.int p1), .val (.int p2), .val (.ref b1), .val (.int wv), .val (.int ov), .val (.int fv), .val (.int tv0), .unset, .unset, .unset, .unset, .unset, .unset, .unset, .unset, .unset, .unset, .unset] []))
  obtain ⟨ys, hys⟩ : ∃ z : List Int32, z = [(nar .byte (p0.toInt8.toInt32)), (nar .byte (((p0.toUInt32 >>> ((8 : Int32) &&& 31).toUInt32).toInt32).toInt8.toInt32)), (nar .byte (((p0.toUInt32 >>> ((16 : Int32) &&& 31).toUInt32).toInt32).toInt8.toInt32)), (nar .byte (((p0.toUInt32 >>> ((24 : Int32) &&& 31).toUInt32).toInt32).toInt8.toInt32)), (nar .byte (p1.toInt8.toInt32))] := ⟨_, rfl⟩
  replace A_b1 : AL Z h6 b1 .byte (own_iv ys) := by rw [hys]; exact A_b1
  have hlen : ys.length = 5 := by rw [hys]; rfl
  obtain ⟨wd, k, fN, tN, hwd, hk, hfN, htN, hw1, hw4, hkw, hft, htw⟩ := own_rng h_wv h_ov h_fv h_tv0
  refine own_via (fun t k => XS.aloadN X6.here hx rfl (hb hby at_90) rfl rfl k) ?_
  show OwnEnds p.tables e below _ (T6.setTop (mkF m 91 #[.val (.int p0), .val (.int p1), .val (.int p2), .val (.ref b1), .val (.int wv), .val (.int ov), .val (.int fv), .val (.int tv0), .unset, .unset, .unset, .unset, .unset, .unset, .unset, .unset, .unset, .unset, .unset] [(.ref b1)]))
  refine own_via (fun t k => XS.iload X6.here hx rfl (hb hby at_91) rfl k) ?_
  show OwnEnds p.tables e below _ (T6.setTop (mkF m 93 #[.val (.int p0), .val (.int p1), .val (.int p2), .val (.ref b1), .val (.int wv), .val (.int ov), .val (.int fv), .val (.int tv0), .unset, .unset, .unset, .unset, .unset, .unset, .unset, .unset, .unset, .unset, .unset] [(.int ov), (.ref b1)]))
  refine own_via (fun t k => XS.iload X6.here hx rfl (hb hby at_93) rfl k) ?_
  show OwnEnds p.tables e below _ (T6.setTop (mkF m 95 #[.val (.int p0), .val (.int p1), .val (.int p2), .val (.ref b1), .val (.int wv), .val (.int ov), .val (.int fv), .val (.int tv0), .unset, .unset, .unset, .unset, .unset, .unset, .unset, .unset, .unset, .unset, .unset] [(.int wv), (.int ov), (.ref b1)]))
  refine own_via (fun t k => XS.iload X6.here hx rfl (hb hby at_95) rfl k) ?_
  show OwnEnds p.tables e below _ (T6.setTop (mkF m 97 #[.val (.int p0), .val (.int p1), .val (.int p2), .val (.ref b1), .val (.int wv), .val (.int ov), .val (.int fv), .val (.int tv0), .unset, .unset, .unset, .unset, .unset, .unset, .unset, .unset, .unset, .unset, .unset] [(.int fv), (.int wv), (.int ov), (.ref b1)]))
  refine own_via (fun t k => XS.iload X6.here hx rfl (hb hby at_97) rfl k) ?_
  show OwnEnds p.tables e below _ (T6.setTop (mkF m 99 #[.val (.int p0), .val (.int p1), .val (.int p2), .val (.ref b1), .val (.int wv), .val (.int ov), .val (.int fv), .val (.int tv0), .unset, .unset, .unset, .unset, .unset, .unset, .unset, .unset, .unset, .unset, .unset] [(.int tv0), (.int fv), (.int wv), (.int ov), (.ref b1)]))
  by_cases hlt : (own_mm (own_gs ys k wd) 255 0).2 - (own_mm (own_gs ys k wd) 255 0).1 < 32
  · skip
    obtain ⟨_, _, ⟨T7, L7, k7, n7⟩, -, X7, ⟨Lc7, hQ7, l7, y7, z7⟩, st7⟩ := Jvm.LawKit.callS X6 hx (y := (⟨"com/example/shelfmark/shelfmark/Scanline", "elements", "([BIIII)[I"⟩ : MethodName)) hown (mvT hZ (hw _ (List.mem_of_getElem? (i := 1) rfl))) (mvT hZ (hw _ (List.mem_of_getElem? (i := 2) rfl))) (mvT hZ (hw _ (List.mem_of_getElem? (i := 3) rfl))) (mvT hZ (hw _ (List.mem_of_getElem? (i := 4) rfl))) (by decide) (backOf (W := 0) (rm1a l Z aw hw [] b1 ov wv fv tv0 ys k wd fN tN na h6 n0 Zs_W6 A_b1 S_ne hk hwd hfN htN hlen hkw hw4 hft htw hlt O0) hZ (hw _ (List.mem_of_getElem? (i := 4) rfl)) (hw _ (List.mem_of_getElem? (i := 3) rfl)) (by decide) (by decide)) (g := (mkF m 99 #[.val (.int p0), .val (.int p1), .val (.int p2), .val (.ref b1), .val (.int wv), .val (.int ov), .val (.int fv), .val (.int tv0), .unset, .unset, .unset, .unset, .unset, .unset, .unset, .unset, .unset, .unset, .unset] [(.int tv0), (.int fv), (.int wv), (.int ov), (.ref b1)])) rfl (by rw [hml]; rfl) (argsL := [(.ref b1), (.int ov), (.int wv), (.int fv), (.int tv0)]) (rest := []) (lenOf pd_0 rfl) rfl (by show 2 * 0 + _ ≤ _; exact Nat.le_of_eq rfl) (hb hby at_99) (fun _ _ => ⟨rfl, e6, (by decide : 1 + 0 ≤ _), (by decide : 5 + 0 ≤ _)⟩)
    dsimp only [Pt.U, Pt.locs, Pt.cells, Pt.slots] at X7 l7 y7 z7 st7 hQ7
    subst l7 y7 z7
    obtain ⟨rfl, Nq7, e7⟩ := hQ7
    have N7 := Fr.app N6 Nq7
    replace e7 : T7.heap = h6 := e7
    refine own_via st7 ?_
    show OwnEnds p.tables e below _ (T7.setTop (mkF m 102 #[.val (.int p0), .val (.int p1), .val (.int p2), .val (.ref b1), .val (.int wv), .val (.int ov), .val (.int fv), .val (.int tv0), .unset, .unset, .unset, .unset, .unset, .unset, .unset, .unset, .unset, .unset, .unset] [(.ref na)]))
    refine own_via (fun t k => XS.astore X7.here hx rfl (hb hby at_102) rfl rfl (l' := #[.val (.int p0), .val (.int p1), .val (.int p2), .val (.ref b1), .val (.int wv), .val (.int ov), .val (.int fv), .val (.int tv0), .val (.ref na), .unset, .unset, .unset, .unset, .unset, .unset, .unset, .unset, .unset, .unset]) rfl k) ?_
    show OwnEnds p.tables e below _ (T7.setTop (mkF m 104 #[.val (.int p0), .val (.int p1), .val (.int p2), .val (.ref b1), .val (.int wv), .val (.int ov), .val (.int fv), .val (.int tv0), .val (.ref na), .unset, .unset, .unset, .unset, .unset, .unset, .unset, .unset, .unset, .unset] []))
    refine own_via (fun t k => XS.aloadN X7.here hx rfl (hb hby at_104) rfl rfl k) ?_
    show OwnEnds p.tables e below _ (T7.setTop (mkF m 105 #[.val (.int p0), .val (.int p1), .val (.int p2), .val (.ref b1), .val (.int wv), .val (.int ov), .val (.int fv), .val (.int tv0), .val (.ref na), .unset, .unset, .unset, .unset, .unset, .unset, .unset, .unset, .unset, .unset] [(.ref b1)]))
    refine own_via (fun t k => XS.iload X7.here hx rfl (hb hby at_105) rfl k) ?_
    show OwnEnds p.tables e below _ (T7.setTop (mkF m 107 #[.val (.int p0), .val (.int p1), .val (.int p2), .val (.ref b1), .val (.int wv), .val (.int ov), .val (.int fv), .val (.int tv0), .val (.ref na), .unset, .unset, .unset, .unset, .unset, .unset, .unset, .unset, .unset, .unset] [(.int ov), (.ref b1)]))
    refine own_via (own_ldB X7 hx hZ e7 A_b1 (v := (.int (ys.getD k 0))) k hk (own_iv_get (by omega)) (g := (mkF m 107 #[.val (.int p0), .val (.int p1), .val (.int p2), .val (.ref b1), .val (.int wv), .val (.int ov), .val (.int fv), .val (.int tv0), .val (.ref na), .unset, .unset, .unset, .unset, .unset, .unset, .unset, .unset, .unset, .unset] [(.int ov), (.ref b1)])) rfl rfl (hb hby at_107)) ?_
    show OwnEnds p.tables e below _ (T7.setTop (mkF m 108 #[.val (.int p0), .val (.int p1), .val (.int p2), .val (.ref b1), .val (.int wv), .val (.int ov), .val (.int fv), .val (.int tv0), .val (.ref na), .unset, .unset, .unset, .unset, .unset, .unset, .unset, .unset, .unset, .unset] [(.int (ys.getD k 0))]))
    refine own_via (fun t k => XS.sipush X7.here hx rfl (hb hby at_108) k) ?_
    show OwnEnds p.tables e below _ (T7.setTop (mkF m 111 #[.val (.int p0), .val (.int p1), .val (.int p2), .val (.ref b1), .val (.int wv), .val (.int ov), .val (.int fv), .val (.int tv0), .val (.ref na), .unset, .unset, .unset, .unset, .unset, .unset, .unset, .unset, .unset, .unset] [(.int (255 : Int32)), (.int (ys.getD k 0))]))
    refine own_via (fun t k => XS.iand X7.here hx rfl (hb hby at_111) rfl k) ?_
    show OwnEnds p.tables e below _ (T7.setTop (mkF m 112 #[.val (.int p0), .val (.int p1), .val (.int p2), .val (.ref b1), .val (.int wv), .val (.int ov), .val (.int fv), .val (.int tv0), .val (.ref na), .unset, .unset, .unset, .unset, .unset, .unset, .unset, .unset, .unset, .unset] [(.int ((ys.getD k 0) &&& (255 : Int32)))]))
    obtain ⟨x0, h_x0⟩ : ∃ z, z = ((ys.getD k 0) &&& (255 : Int32)) := ⟨_, rfl⟩
    rw [← h_x0]
    refine own_via (fun t k => XS.istore X7.here hx rfl (hb hby at_112) rfl (l' := #[.val (.int p0), .val (.int p1), .val (.int p2), .val (.ref b1), .val (.int wv), .val (.int ov), .val (.int fv), .val (.int tv0), .val (.ref na), .val (.int x0), .unset, .unset, .unset, .unset, .unset, .unset, .unset, .unset, .unset]) rfl k) ?_
    show OwnEnds p.tables e below _ (T7.setTop (mkF m 114 #[.val (.int p0), .val (.int p1), .val (.int p2), .val (.ref b1), .val (.int wv), .val (.int ov), .val (.int fv), .val (.int tv0), .val (.ref na), .val (.int x0), .unset, .unset, .unset, .unset, .unset, .unset, .unset, .unset, .unset] []))
    refine own_via (fun t k => XS.iload X7.here hx rfl (hb hby at_114) rfl k) ?_
    show OwnEnds p.tables e below _ (T7.setTop (mkF m 116 #[.val (.int p0), .val (.int p1), .val (.int p2), .val (.ref b1), .val (.int wv), .val (.int ov), .val (.int fv), .val (.int tv0), .val (.ref na), .val (.int x0), .unset, .unset, .unset, .unset, .unset, .unset, .unset, .unset, .unset] [(.int wv)]))
    refine own_via (fun t k => XS.iconst X7.here hx rfl (hb hby at_116) k) ?_
    show OwnEnds p.tables e below _ (T7.setTop (mkF m 117 #[.val (.int p0), .val (.int p1), .val (.int p2), .val (.ref b1), .val (.int wv), .val (.int ov), .val (.int fv), .val (.int tv0), .val (.ref na), .val (.int x0), .unset, .unset, .unset, .unset, .unset, .unset, .unset, .unset, .unset] [(.int (1 : Int32)), (.int wv)]))
    have J135_8 : ∀ x1 : Int32, x1 = (if (1 : Int32) < wv then ((ys.getD (k + 1) 0) &&& (255 : Int32)) else x0) → OwnEnds p.tables e below (OwnQ s 24 128 (Q0 Z p0 p1 p2 na h0 n0)) (T7.setTop (mkF m 135 #[.val (.int p0), .val (.int p1), .val (.int p2), .val (.ref b1), .val (.int wv), .val (.int ov), .val (.int fv), .val (.int tv0), .val (.ref na), .val (.int x0), .unset, .unset, .unset, .unset, .unset, .unset, .unset, .unset, .unset] [(.int x1)])) := by
      intro x1 h_x1
      refine own_via (fun t k => XS.istore X7.here hx rfl (hb hby at_135) rfl (l' := #[.val (.int p0), .val (.int p1), .val (.int p2), .val (.ref b1), .val (.int wv), .val (.int ov), .val (.int fv), .val (.int tv0), .val (.ref na), .val (.int x0), .val (.int x1), .unset, .unset, .unset, .unset, .unset, .unset, .unset, .unset]) rfl k) ?_
      show OwnEnds p.tables e below _ (T7.setTop (mkF m 137 #[.val (.int p0), .val (.int p1), .val (.int p2), .val (.ref b1), .val (.int wv), .val (.int ov), .val (.int fv), .val (.int tv0), .val (.ref na), .val (.int x0), .val (.int x1), .unset, .unset, .unset, .unset, .unset, .unset, .unset, .unset] []))
      refine own_via (fun t k => XS.iload X7.here hx rfl (hb hby at_137) rfl k) ?_
      show OwnEnds p.tables e below _ (T7.setTop (mkF m 139 #[.val (.int p0), .val (.int p1), .val (.int p2), .val (.ref b1), .val (.int wv), .val (.int ov), .val (.int fv), .val (.int tv0), .val (.ref na), .val (.int x0), .val (.int x1), .unset, .unset, .unset, .unset, .unset, .unset, .unset, .unset] [(.int wv)]))
      refine own_via (fun t k => XS.iconst X7.here hx rfl (hb hby at_139) k) ?_
      show OwnEnds p.tables e below _ (T7.setTop (mkF m 140 #[.val (.int p0), .val (.int p1), .val (.int p2), .val (.ref b1), .val (.int wv), .val (.int ov), .val (.int fv), .val (.int tv0), .val (.ref na), .val (.int x0), .val (.int x1), .unset, .unset, .unset, .unset, .unset, .unset, .unset, .unset] [(.int (2 : Int32)), (.int wv)]))
      have J158_9 : ∀ x2 : Int32, x2 = (if (2 : Int32) < wv then ((ys.getD (k + 2) 0) &&& (255 : Int32)) else x0) → OwnEnds p.tables e below (OwnQ s 24 128 (Q0 Z p0 p1 p2 na h0 n0)) (T7.setTop (mkF m 158 #[.val (.int p0), .val (.int p1), .val (.int p2), .val (.ref b1), .val (.int wv), .val (.int ov), .val (.int fv), .val (.int tv0), .val (.ref na), .val (.int x0), .val (.int x1), .unset, .unset, .unset, .unset, .unset, .unset, .unset, .unset] [(.int x2)])) := by
        intro x2 h_x2
        refine own_via (fun t k => XS.istore X7.here hx rfl (hb hby at_158) rfl (l' := #[.val (.int p0), .val (.int p1), .val (.int p2), .val (.ref b1), .val (.int wv), .val (.int ov), .val (.int fv), .val (.int tv0), .val (.ref na), .val (.int x0), .val (.int x1), .val (.int x2), .unset, .unset, .unset, .unset, .unset, .unset, .unset]) rfl k) ?_
        show OwnEnds p.tables e below _ (T7.setTop (mkF m 160 #[.val (.int p0), .val (.int p1), .val (.int p2), .val (.ref b1), .val (.int wv), .val (.int ov), .val (.int fv), .val (.int tv0), .val (.ref na), .val (.int x0), .val (.int x1), .val (.int x2), .unset, .unset, .unset, .unset, .unset, .unset, .unset] []))
        refine own_via (fun t k => XS.iload X7.here hx rfl (hb hby at_160) rfl k) ?_
        show OwnEnds p.tables e below _ (T7.setTop (mkF m 162 #[.val (.int p0), .val (.int p1), .val (.int p2), .val (.ref b1), .val (.int wv), .val (.int ov), .val (.int fv), .val (.int tv0), .val (.ref na), .val (.int x0), .val (.int x1), .val (.int x2), .unset, .unset, .unset, .unset, .unset, .unset, .unset] [(.int wv)]))
        refine own_via (fun t k => XS.iconst X7.here hx rfl (hb hby at_162) k) ?_
        show OwnEnds p.tables e below _ (T7.setTop (mkF m 163 #[.val (.int p0), .val (.int p1), .val (.int p2), .val (.ref b1), .val (.int wv), .val (.int ov), .val (.int fv), .val (.int tv0), .val (.ref na), .val (.int x0), .val (.int x1), .val (.int x2), .unset, .unset, .unset, .unset, .unset, .unset, .unset] [(.int (3 : Int32)), (.int wv)]))
        have J181_10 : ∀ x3 : Int32, x3 = (if (3 : Int32) < wv then ((ys.getD (k + 3) 0) &&& (255 : Int32)) else x0) → OwnEnds p.tables e below (OwnQ s 24 128 (Q0 Z p0 p1 p2 na h0 n0)) (T7.setTop (mkF m 181 #[.val (.int p0), .val (.int p1), .val (.int p2), .val (.ref b1), .val (.int wv), .val (.int ov), .val (.int fv), .val (.int tv0), .val (.ref na), .val (.int x0), .val (.int x1), .val (.int x2), .unset, .unset, .unset, .unset, .unset, .unset, .unset] [(.int x3)])) := by
          intro x3 h_x3
          refine own_via (fun t k => XS.istore X7.here hx rfl (hb hby at_181) rfl (l' := #[.val (.int p0), .val (.int p1), .val (.int p2), .val (.ref b1), .val (.int wv), .val (.int ov), .val (.int fv), .val (.int tv0), .val (.ref na), .val (.int x0), .val (.int x1), .val (.int x2), .val (.int x3), .unset, .unset, .unset, .unset, .unset, .unset]) rfl k) ?_
          show OwnEnds p.tables e below _ (T7.setTop (mkF m 183 #[.val (.int p0), .val (.int p1), .val (.int p2), .val (.ref b1), .val (.int wv), .val (.int ov), .val (.int fv), .val (.int tv0), .val (.ref na), .val (.int x0), .val (.int x1), .val (.int x2), .val (.int x3), .unset, .unset, .unset, .unset, .unset, .unset] []))
          refine own_via (fun t k => XS.iload X7.here hx rfl (hb hby at_183) rfl k) ?_
          show OwnEnds p.tables e below _ (T7.setTop (mkF m 185 #[.val (.int p0), .val (.int p1), .val (.int p2), .val (.ref b1), .val (.int wv), .val (.int ov), .val (.int fv), .val (.int tv0), .val (.ref na), .val (.int x0), .val (.int x1), .val (.int x2), .val (.int x3), .unset, .unset, .unset, .unset, .unset, .unset] [(.int x0)]))
          refine own_via (fun t k => XS.iload X7.here hx rfl (hb hby at_185) rfl k) ?_
          show OwnEnds p.tables e below _ (T7.setTop (mkF m 187 #[.val (.int p0), .val (.int p1), .val (.int p2), .val (.ref b1), .val (.int wv), .val (.int ov), .val (.int fv), .val (.int tv0), .val (.ref na), .val (.int x0), .val (.int x1), .val (.int x2), .val (.int x3), .unset, .unset, .unset, .unset, .unset, .unset] [(.int x1), (.int x0)]))
          obtain ⟨_, _, ⟨T11, L11, k11, n11⟩, -, X11, ⟨Lc11, hQ11, l11, y11, z11⟩, st11⟩ := Jvm.LawKit.callS X7 hx (y := (⟨"java/lang/Math", "min", "(II)I"⟩ : MethodName)) hown (mvT hZ (hw _ (List.mem_of_getElem? (i := 7) rfl))) (mvT hZ (hw _ (List.mem_of_getElem? (i := 8) rfl))) (mvT hZ (hw _ (List.mem_of_getElem? (i := 9) rfl))) (mvT hZ (hw _ (List.mem_of_getElem? (i := 10) rfl))) (by decide) (backOf (W := 0) (rm2 l Z aw hw [] x0 x1 h6 n0 Zs_W6 ) hZ (hw _ (List.mem_of_getElem? (i := 10) rfl)) (hw _ (List.mem_of_getElem? (i := 9) rfl)) (by decide) (by decide)) (g := (mkF m 187 #[.val (.int p0), .val (.int p1), .val (.int p2), .val (.ref b1), .val (.int wv), .val (.int ov), .val (.int fv), .val (.int tv0), .val (.ref na), .val (.int x0), .val (.int x1), .val (.int x2), .val (.int x3), .unset, .unset, .unset, .unset, .unset, .unset] [(.int x1), (.int x0)])) rfl (by rw [hml]; rfl) (argsL := [(.int x0), (.int x1)]) (rest := []) (lenOf pd_1 rfl) rfl (by show 2 * 0 + _ ≤ _; exact Nat.le_of_eq rfl) (hb hby at_187) (fun _ _ => ⟨rfl, e7, (by decide : 1 + 0 ≤ _), (by decide : 5 + 0 ≤ _)⟩)
          dsimp only [Pt.U, Pt.locs, Pt.cells, Pt.slots] at X11 l11 y11 z11 st11 hQ11
          subst l11 y11 z11
          obtain ⟨rfl, Nq11, e11⟩ := hQ11
          have N11 := Fr.app N7 Nq11
          replace e11 : T11.heap = h6 := e11
          refine own_via st11 ?_
          show OwnEnds p.tables e below _ (T11.setTop (mkF m 190 #[.val (.int p0), .val (.int p1), .val (.int p2), .val (.ref b1), .val (.int wv), .val (.int ov), .val (.int fv), .val (.int tv0), .val (.ref na), .val (.int x0), .val (.int x1), .val (.int x2), .val (.int x3), .unset, .unset, .unset, .unset, .unset, .unset] [(.int (own_min x0 x1))]))
          refine own_via (fun t k => XS.iload X11.here hx rfl (hb hby at_190) rfl k) ?_
          show OwnEnds p.tables e below _ (T11.setTop (mkF m 192 #[.val (.int p0), .val (.int p1), .val (.int p2), .val (.ref b1), .val (.int wv), .val (.int ov), .val (.int fv), .val (.int tv0), .val (.ref na), .val (.int x0), .val (.int x1), .val (.int x2), .val (.int x3), .unset, .unset, .unset, .unset, .unset, .unset] [(.int x2), (.int (own_min x0 x1))]))
          refine own_via (fun t k => XS.iload X11.here hx rfl (hb hby at_192) rfl k) ?_
          show OwnEnds p.tables e below _ (T11.setTop (mkF m 194 #[.val (.int p0), .val (.int p1), .val (.int p2), .val (.ref b1), .val (.int wv), .val (.int ov), .val (.int fv), .val (.int tv0), .val (.ref na), .val (.int x0), .val (.int x1), .val (.int x2), .val (.int x3), .unset, .unset, .unset, .unset, .unset, .unset] [(.int x3), (.int x2), (.int (own_min x0 x1))]))
          obtain ⟨_, _, ⟨T12, L12, k12, n12⟩, -, X12, ⟨Lc12, hQ12, l12, y12, z12⟩, st12⟩ := Jvm.LawKit.callS X11 hx (y := (⟨"java/lang/Math", "min", "(II)I"⟩ : MethodName)) hown (mvT hZ (hw _ (List.mem_of_getElem? (i := 7) rfl))) (mvT hZ (hw _ (List.mem_of_getElem? (i := 8) rfl))) (mvT hZ (hw _ (List.mem_of_getElem? (i := 9) rfl))) (mvT hZ (hw _ (List.mem_of_getElem? (i := 10) rfl))) (by decide) (backOf (W := 1) (rm2 l Z aw hw [] x2 x3 h6 n0 Zs_W6 ) hZ (hw _ (List.mem_of_getElem? (i := 10) rfl)) (hw _ (List.mem_of_getElem? (i := 9) rfl)) (by decide) (by decide)) (g := (mkF m 194 #[.val (.int p0), .val (.int p1), .val (.int p2), .val (.ref b1), .val (.int wv), .val (.int ov), .val (.int fv), .val (.int tv0), .val (.ref na), .val (.int x0), .val (.int x1), .val (.int x2), .val (.int x3), .unset, .unset, .unset, .unset, .unset, .unset] [(.int x3), (.int x2), (.int (own_min x0 x1))])) rfl (by rw [hml]; rfl) (argsL := [(.int x2), (.int x3)]) (rest := [(.int (own_min x0 x1))]) (lenOf pd_1 rfl) rfl (by show 2 * 0 + _ ≤ _; exact Nat.le_of_eq rfl) (hb hby at_194) (fun _ _ => ⟨rfl, e11, (by decide : 1 + 0 ≤ _), (by decide : 5 + 0 ≤ _)⟩)
          dsimp only [Pt.U, Pt.locs, Pt.cells, Pt.slots] at X12 l12 y12 z12 st12 hQ12
          subst l12 y12 z12
          obtain ⟨rfl, Nq12, e12⟩ := hQ12
          have N12 := Fr.app N11 Nq12
          replace e12 : T12.heap = h6 := e12
          refine own_via st12 ?_
          show OwnEnds p.tables e below _ (T12.setTop (mkF m 197 #[.val (.int p0), .val (.int p1), .val (.int p2), .val (.ref b1), .val (.int wv), .val (.int ov), .val (.int fv), .val (.int tv0), .val (.ref na), .val (.int x0), .val (.int x1), .val (.int x2), .val (.int x3), .unset, .unset, .unset, .unset, .unset, .unset] [(.int (own_min x2 x3)), (.int (own_min x0 x1))]))
          obtain ⟨_, _, ⟨T13, L13, k13, n13⟩, -, X13, ⟨Lc13, hQ13, l13, y13, z13⟩, st13⟩ := Jvm.LawKit.callS X12 hx (y := (⟨"java/lang/Math", "min", "(II)I"⟩ : MethodName)) hown (mvT hZ (hw _ (List.mem_of_getElem? (i := 7) rfl))) (mvT hZ (hw _ (List.mem_of_getElem? (i := 8) rfl))) (mvT hZ (hw _ (List.mem_of_getElem? (i := 9) rfl))) (mvT hZ (hw _ (List.mem_of_getElem? (i := 10) rfl))) (by decide) (backOf (W := 0) (rm2 l Z aw hw [] (own_min x0 x1) (own_min x2 x3) h6 n0 Zs_W6 ) hZ (hw _ (List.mem_of_getElem? (i := 10) rfl)) (hw _ (List.mem_of_getElem? (i := 9) rfl)) (by decide) (by decide)) (g := (mkF m 197 #[.val (.int p0), .val (.int p1), .val (.int p2), .val (.ref b1), .val (.int wv), .val (.int ov), .val (.int fv), .val (.int tv0), .val (.ref na), .val (.int x0), .val (.int x1), .val (.int x2), .val (.int x3), .unset, .unset, .unset, .unset, .unset, .unset] [(.int (own_min x2 x3)), (.int (own_min x0 x1))])) rfl (by rw [hml]; rfl) (argsL := [(.int (own_min x0 x1)), (.int (own_min x2 x3))]) (rest := []) (lenOf pd_1 rfl) rfl (by show 2 * 0 + _ ≤ _; exact Nat.le_of_eq rfl) (hb hby at_197) (fun _ _ => ⟨rfl, e12, (by decide : 1 + 0 ≤ _), (by decide : 5 + 0 ≤ _)⟩)
          dsimp only [Pt.U, Pt.locs, Pt.cells, Pt.slots] at X13 l13 y13 z13 st13 hQ13
          subst l13 y13 z13
          obtain ⟨rfl, Nq13, e13⟩ := hQ13
          have N13 := Fr.app N12 Nq13
          replace e13 : T13.heap = h6 := e13
          refine own_via st13 ?_
          show OwnEnds p.tables e below _ (T13.setTop (mkF m 200 #[.val (.int p0), .val (.int p1), .val (.int p2), .val (.ref b1), .val (.int wv), .val (.int ov), .val (.int fv), .val (.int tv0), .val (.ref na), .val (.int x0), .val (.int x1), .val (.int x2), .val (.int x3), .unset, .unset, .unset, .unset, .unset, .unset] [(.int (own_min (own_min x0 x1) (own_min x2 x3)))]))
          obtain ⟨mn, h_mn⟩ : ∃ z, z = (own_min (own_min x0 x1) (own_min x2 x3)) := ⟨_, rfl⟩
          rw [← h_mn]
          refine own_via (fun t k => XS.istore X13.here hx rfl (hb hby at_200) rfl (l' := #[.val (.int p0), .val (.int p1), .val (.int p2), .val (.ref b1), .val (.int wv), .val (.int ov), .val (.int fv), .val (.int tv0), .val (.ref na), .val (.int x0), .val (.int x1), .val (.int x2), .val (.int x3), .val (.int mn), .unset, .unset, .unset, .unset, .unset]) rfl k) ?_
          show OwnEnds p.tables e below _ (T13.setTop (mkF m 202 #[.val (.int p0), .val (.int p1), .val (.int p2), .val (.ref b1), .val (.int wv), .val (.int ov), .val (.int fv), .val (.int tv0), .val (.ref na), .val (.int x0), .val (.int x1), .val (.int x2), .val (.int x3), .val (.int mn), .unset, .unset, .unset, .unset, .unset] []))
          refine own_via (fun t k => XS.iload X13.here hx rfl (hb hby at_202) rfl k) ?_
          show OwnEnds p.tables e below _ (T13.setTop (mkF m 204 #[.val (.int p0), .val (.int p1), .val (.int p2), .val (.ref b1), .val (.int wv), .val (.int ov), .val (.int fv), .val (.int tv0), .val (.ref na), .val (.int x0), .val (.int x1), .val (.int x2), .val (.int x3), .val (.int mn), .unset, .unset, .unset, .unset, .unset] [(.int x0)]))
          refine own_via (fun t k => XS.iload X13.here hx rfl (hb hby at_204) rfl k) ?_
          show OwnEnds p.tables e below _ (T13.setTop (mkF m 206 #[.val (.int p0), .val (.int p1), .val (.int p2), .val (.ref b1), .val (.int wv), .val (.int ov), .val (.int fv), .val (.int tv0), .val (.ref na), .val (.int x0), .val (.int x1), .val (.int x2), .val (.int x3), .val (.int mn), .unset, .unset, .unset, .unset, .unset] [(.int x1), (.int x0)]))
          obtain ⟨_, _, ⟨T14, L14, k14, n14⟩, -, X14, ⟨Lc14, hQ14, l14, y14, z14⟩, st14⟩ := Jvm.LawKit.callS X13 hx (y := (⟨"java/lang/Math", "max", "(II)I"⟩ : MethodName)) hown (mvT hZ (hw _ (List.mem_of_getElem? (i := 11) rfl))) (mvT hZ (hw _ (List.mem_of_getElem? (i := 12) rfl))) (mvT hZ (hw _ (List.mem_of_getElem? (i := 9) rfl))) (mvT hZ (hw _ (List.mem_of_getElem? (i := 13) rfl))) (by decide) (backOf (W := 0) (rm3 l Z aw hw [] x0 x1 h6 n0 Zs_W6 ) hZ (hw _ (List.mem_of_getElem? (i := 13) rfl)) (hw _ (List.mem_of_getElem? (i := 9) rfl)) (by decide) (by decide)) (g := (mkF m 206 #[.val (.int p0), .val (.int p1), .val (.int p2), .val (.ref b1), .val (.int wv), .val (.int ov), .val (.int fv), .val (.int tv0), .val (.ref na), .val (.int x0), .val (.int x1), .val (.int x2), .val (.int x3), .val (.int mn), .unset, .unset, .unset, .unset, .unset] [(.int x1), (.int x0)])) rfl (by rw [hml]; rfl) (argsL := [(.int x0), (.int x1)]) (rest := []) (lenOf pd_1 rfl) rfl (by show 2 * 0 + _ ≤ _; exact Nat.le_of_eq rfl) (hb hby at_206) (fun _ _ => ⟨rfl, e13, (by decide : 1 + 0 ≤ _), (by decide : 5 + 0 ≤ _)⟩)
          dsimp only [Pt.U, Pt.locs, Pt.cells, Pt.slots] at X14 l14 y14 z14 st14 hQ14
          subst l14 y14 z14
          obtain ⟨rfl, Nq14, e14⟩ := hQ14
          have N14 := Fr.app N13 Nq14
          replace e14 : T14.heap = h6 := e14
          refine own_via st14 ?_
          show OwnEnds p.tables e below _ (T14.setTop (mkF m 209 #[.val (.int p0), .val (.int p1), .val (.int p2), .val (.ref b1), .val (.int wv), .val (.int ov), .val (.int fv), .val (.int tv0), .val (.ref na), .val (.int x0), .val (.int x1), .val (.int x2), .val (.int x3), .val (.int mn), .unset, .unset, .unset, .unset, .unset] [(.int (own_max x0 x1))]))
          refine own_via (fun t k => XS.iload X14.here hx rfl (hb hby at_209) rfl k) ?_
          show OwnEnds p.tables e below _ (T14.setTop (mkF m 211 #[.val (.int p0), .val (.int p1), .val (.int p2), .val (.ref b1), .val (.int wv), .val (.int ov), .val (.int fv), .val (.int tv0), .val (.ref na), .val (.int x0), .val (.int x1), .val (.int x2), .val (.int x3), .val (.int mn), .unset, .unset, .unset, .unset, .unset] [(.int x2), (.int (own_max x0 x1))]))
          refine own_via (fun t k => XS.iload X14.here hx rfl (hb hby at_211) rfl k) ?_
          show OwnEnds p.tables e below _ (T14.setTop (mkF m 213 #[.val (.int p0), .val (.int p1), .val (.int p2), .val (.ref b1), .val (.int wv), .val (.int ov), .val (.int fv), .val (.int tv0), .val (.ref na), .val (.int x0), .val (.int x1), .val (.int x2), .val (.int x3), .val (.int mn), .unset, .unset, .unset, .unset, .unset] [(.int x3), (.int x2), (.int (own_max x0 x1))]))
          obtain ⟨_, _, ⟨T15, L15, k15, n15⟩, -, X15, ⟨Lc15, hQ15, l15, y15, z15⟩, st15⟩ := Jvm.LawKit.callS X14 hx (y := (⟨"java/lang/Math", "max", "(II)I"⟩ : MethodName)) hown (mvT hZ (hw _ (List.mem_of_getElem? (i := 11) rfl))) (mvT hZ (hw _ (List.mem_of_getElem? (i := 12) rfl))) (mvT hZ (hw _ (List.mem_of_getElem? (i := 9) rfl))) (mvT hZ (hw _ (List.mem_of_getElem? (i := 13) rfl))) (by decide) (backOf (W := 1) (rm3 l Z aw hw [] x2 x3 h6 n0 Zs_W6 ) hZ (hw _ (List.mem_of_getElem? (i := 13) rfl)) (hw _ (List.mem_of_getElem? (i := 9) rfl)) (by decide) (by decide)) (g := (mkF m 213 #[.val (.int p0), .val (.int p1), .val (.int p2), .val (.ref b1), .val (.int wv), .val (.int ov), .val (.int fv), .val (.int tv0), .val (.ref na), .val (.int x0), .val (.int x1), .val (.int x2), .val (.int x3), .val (.int mn), .unset, .unset, .unset, .unset, .unset] [(.int x3), (.int x2), (.int (own_max x0 x1))])) rfl (by rw [hml]; rfl) (argsL := [(.int x2), (.int x3)]) (rest := [(.int (own_max x0 x1))]) (lenOf pd_1 rfl) rfl (by show 2 * 0 + _ ≤ _; exact Nat.le_of_eq rfl) (hb hby at_213) (fun _ _ => ⟨rfl, e14, (by decide : 1 + 0 ≤ _), (by decide : 5 + 0 ≤ _)⟩)
          dsimp only [Pt.U, Pt.locs, Pt.cells, Pt.slots] at X15 l15 y15 z15 st15 hQ15
          subst l15 y15 z15
          obtain ⟨rfl, Nq15, e15⟩ := hQ15
          have N15 := Fr.app N14 Nq15
          replace e15 : T15.heap = h6 := e15
          refine own_via st15 ?_
          show OwnEnds p.tables e below _ (T15.setTop (mkF m 216 #[.val (.int p0), .val (.int p1), .val (.int p2), .val (.ref b1), .val (.int wv), .val (.int ov), .val (.int fv), .val (.int tv0), .val (.ref na), .val (.int x0), .val (.int x1), .val (.int x2), .val (.int x3), .val (.int mn), .unset, .unset, .unset, .unset, .unset] [(.int (own_max x2 x3)), (.int (own_max x0 x1))]))
          obtain ⟨_, _, ⟨T16, L16, k16, n16⟩, -, X16, ⟨Lc16, hQ16, l16, y16, z16⟩, st16⟩ := Jvm.LawKit.callS X15 hx (y := (⟨"java/lang/Math", "max", "(II)I"⟩ : MethodName)) hown (mvT hZ (hw _ (List.mem_of_getElem? (i := 11) rfl))) (mvT hZ (hw _ (List.mem_of_getElem? (i := 12) rfl))) (mvT hZ (hw _ (List.mem_of_getElem? (i := 9) rfl))) (mvT hZ (hw _ (List.mem_of_getElem? (i := 13) rfl))) (by decide) (backOf (W := 0) (rm3 l Z aw hw [] (own_max x0 x1) (own_max x2 x3) h6 n0 Zs_W6 ) hZ (hw _ (List.mem_of_getElem? (i := 13) rfl)) (hw _ (List.mem_of_getElem? (i := 9) rfl)) (by decide) (by decide)) (g := (mkF m 216 #[.val (.int p0), .val (.int p1), .val (.int p2), .val (.ref b1), .val (.int wv), .val (.int ov), .val (.int fv), .val (.int tv0), .val (.ref na), .val (.int x0), .val (.int x1), .val (.int x2), .val (.int x3), .val (.int mn), .unset, .unset, .unset, .unset, .unset] [(.int (own_max x2 x3)), (.int (own_max x0 x1))])) rfl (by rw [hml]; rfl) (argsL := [(.int (own_max x0 x1)), (.int (own_max x2 x3))]) (rest := []) (lenOf pd_1 rfl) rfl (by show 2 * 0 + _ ≤ _; exact Nat.le_of_eq rfl) (hb hby at_216) (fun _ _ => ⟨rfl, e15, (by decide : 1 + 0 ≤ _), (by decide : 5 + 0 ≤ _)⟩)
          dsimp only [Pt.U, Pt.locs, Pt.cells, Pt.slots] at X16 l16 y16 z16 st16 hQ16
          subst l16 y16 z16
          obtain ⟨rfl, Nq16, e16⟩ := hQ16
          have N16 := Fr.app N15 Nq16
          replace e16 : T16.heap = h6 := e16
          refine own_via st16 ?_
          show OwnEnds p.tables e below _ (T16.setTop (mkF m 219 #[.val (.int p0), .val (.int p1), .val (.int p2), .val (.ref b1), .val (.int wv), .val (.int ov), .val (.int fv), .val (.int tv0), .val (.ref na), .val (.int x0), .val (.int x1), .val (.int x2), .val (.int x3), .val (.int mn), .unset, .unset, .unset, .unset, .unset] [(.int (own_max (own_max x0 x1) (own_max x2 x3)))]))
          obtain ⟨mx, h_mx⟩ : ∃ z, z = (own_max (own_max x0 x1) (own_max x2 x3)) := ⟨_, rfl⟩
          rw [← h_mx]
          refine own_via (fun t k => XS.istore X16.here hx rfl (hb hby at_219) rfl (l' := #[.val (.int p0), .val (.int p1), .val (.int p2), .val (.ref b1), .val (.int wv), .val (.int ov), .val (.int fv), .val (.int tv0), .val (.ref na), .val (.int x0), .val (.int x1), .val (.int x2), .val (.int x3), .val (.int mn), .val (.int mx), .unset, .unset, .unset, .unset]) rfl k) ?_
          show OwnEnds p.tables e below _ (T16.setTop (mkF m 221 #[.val (.int p0), .val (.int p1), .val (.int p2), .val (.ref b1), .val (.int wv), .val (.int ov), .val (.int fv), .val (.int tv0), .val (.ref na), .val (.int x0), .val (.int x1), .val (.int x2), .val (.int x3), .val (.int mn), .val (.int mx), .unset, .unset, .unset, .unset] []))
          have hmmq := own_mmeq hwd hw1 hw4 h_x0 h_x1 h_x2 h_x3 h_mn h_mx
          have hlt' := hlt
          rw [hmmq] at hlt'
          refine own_via (fun t k => XS.iload X16.here hx rfl (hb hby at_221) rfl k) ?_
          show OwnEnds p.tables e below _ (T16.setTop (mkF m 223 #[.val (.int p0), .val (.int p1), .val (.int p2), .val (.ref b1), .val (.int wv), .val (.int ov), .val (.int fv), .val (.int tv0), .val (.ref na), .val (.int x0), .val (.int x1), .val (.int x2), .val (.int x3), .val (.int mn), .val (.int mx), .unset, .unset, .unset, .unset] [(.int mx)]))
          refine own_via (fun t k => XS.iload X16.here hx rfl (hb hby at_223) rfl k) ?_
          show OwnEnds p.tables e below _ (T16.setTop (mkF m 225 #[.val (.int p0), .val (.int p1), .val (.int p2), .val (.ref b1), .val (.int wv), .val (.int ov), .val (.int fv), .val (.int tv0), .val (.ref na), .val (.int x0), .val (.int x1), .val (.int x2), .val (.int x3), .val (.int mn), .val (.int mx), .unset, .unset, .unset, .unset] [(.int mn), (.int mx)]))
          refine own_via (fun t k => XS.isub X16.here hx rfl (hb hby at_225) rfl k) ?_
          show OwnEnds p.tables e below _ (T16.setTop (mkF m 226 #[.val (.int p0), .val (.int p1), .val (.int p2), .val (.ref b1), .val (.int wv), .val (.int ov), .val (.int fv), .val (.int tv0), .val (.ref na), .val (.int x0), .val (.int x1), .val (.int x2), .val (.int x3), .val (.int mn), .val (.int mx), .unset, .unset, .unset, .unset] [(.int (mx - mn))]))
          refine own_via (fun t k => XS.bipush X16.here hx rfl (hb hby at_226) k) ?_
          show OwnEnds p.tables e below _ (T16.setTop (mkF m 228 #[.val (.int p0), .val (.int p1), .val (.int p2), .val (.ref b1), .val (.int wv), .val (.int ov), .val (.int fv), .val (.int tv0), .val (.ref na), .val (.int x0), .val (.int x1), .val (.int x2), .val (.int x3), .val (.int mn), .val (.int mx), .unset, .unset, .unset, .unset] [(.int (32 : Int32)), (.int (mx - mn))]))
          have hc228_17 : (mx - mn) < (32 : Int32) := hlt'
          refine own_via (fun t k => XS.icmpNo X16.here hx rfl (hb hby at_228) rfl (tlt hc228_17).2.1 k) ?_
          show OwnEnds p.tables e below _ (T16.setTop (mkF m 231 #[.val (.int p0), .val (.int p1), .val (.int p2), .val (.ref b1), .val (.int wv), .val (.int ov), .val (.int fv), .val (.int tv0), .val (.ref na), .val (.int x0), .val (.int x1), .val (.int x2), .val (.int x3), .val (.int mn), .val (.int mx), .unset, .unset, .unset, .unset] []))
          refine own_via (fun t k => XS.aload X16.here hx rfl (hb hby at_231) rfl rfl k) ?_
          show OwnEnds p.tables e below _ (T16.setTop (mkF m 233 #[.val (.int p0), .val (.int p1), .val (.int p2), .val (.ref b1), .val (.int wv), .val (.int ov), .val (.int fv), .val (.int tv0), .val (.ref na), .val (.int x0), .val (.int x1), .val (.int x2), .val (.int x3), .val (.int mn), .val (.int mx), .unset, .unset, .unset, .unset] [(.ref na)]))
          refine own_via (own_len X16 hx hZ e16 A_na (z := (0 : Int32)) rfl (g := (mkF m 233 #[.val (.int p0), .val (.int p1), .val (.int p2), .val (.ref b1), .val (.int wv), .val (.int ov), .val (.int fv), .val (.int tv0), .val (.ref na), .val (.int x0), .val (.int x1), .val (.int x2), .val (.int x3), .val (.int mn), .val (.int mx), .unset, .unset, .unset, .unset] [(.ref na)])) rfl rfl (hb hby at_233)) ?_
          show OwnEnds p.tables e below _ (T16.setTop (mkF m 234 #[.val (.int p0), .val (.int p1), .val (.int p2), .val (.ref b1), .val (.int wv), .val (.int ov), .val (.int fv), .val (.int tv0), .val (.ref na), .val (.int x0), .val (.int x1), .val (.int x2), .val (.int x3), .val (.int mn), .val (.int mx), .unset, .unset, .unset, .unset] [(.int (0 : Int32))]))
          have hc234_18 : (0 : Int32) = (0 : Int32) := by decide
          refine own_via (fun t k => XS.ifNo X16.here hx rfl (hb hby at_234) rfl ((if0 _ _).trans (teq hc234_18).2) k) ?_
          show OwnEnds p.tables e below _ (T16.setTop (mkF m 237 #[.val (.int p0), .val (.int p1), .val (.int p2), .val (.ref b1), .val (.int wv), .val (.int ov), .val (.int fv), .val (.int tv0), .val (.ref na), .val (.int x0), .val (.int x1), .val (.int x2), .val (.int x3), .val (.int mn), .val (.int mx), .unset, .unset, .unset, .unset] []))
          refine own_via (fun t k => XS.iconst X16.here hx rfl (hb hby at_237) k) ?_
          show OwnEnds p.tables e below _ (T16.setTop (mkF m 238 #[.val (.int p0), .val (.int p1), .val (.int p2), .val (.ref b1), .val (.int wv), .val (.int ov), .val (.int fv), .val (.int tv0), .val (.ref na), .val (.int x0), .val (.int x1), .val (.int x2), .val (.int x3), .val (.int mn), .val (.int mx), .unset, .unset, .unset, .unset] [(.int (1 : Int32))]))
          refine own_via (fun t k => XS.goto X16.here hx rfl (pc0 := 238) (pc' := 242) rfl (hb hby at_238) (by decide) (by decide) k) ?_
          show OwnEnds p.tables e below _ (T16.setTop (mkF m 242 #[.val (.int p0), .val (.int p1), .val (.int p2), .val (.ref b1), .val (.int wv), .val (.int ov), .val (.int fv), .val (.int tv0), .val (.ref na), .val (.int x0), .val (.int x1), .val (.int x2), .val (.int x3), .val (.int mn), .val (.int mx), .unset, .unset, .unset, .unset] [(.int (1 : Int32))]))
          refine own_retN (t := .boolean) X16 hx Bd.returns (by simp) hlk (hb hby at_242) ?_ (by decide) (by decide)
          rw [e16]
          exact ⟨rfl, N16⟩
        by_cases hc163_19 : (3 : Int32) < wv
        · skip
          refine own_via (fun t k => XS.icmpNo X7.here hx rfl (hb hby at_163) rfl (tlt hc163_19).2.2.2 k) ?_
          show OwnEnds p.tables e below _ (T7.setTop (mkF m 166 #[.val (.int p0), .val (.int p1), .val (.int p2), .val (.ref b1), .val (.int wv), .val (.int ov), .val (.int fv), .val (.int tv0), .val (.ref na), .val (.int x0), .val (.int x1), .val (.int x2), .unset, .unset, .unset, .unset, .unset, .unset, .unset] []))
          refine own_via (fun t k => XS.aloadN X7.here hx rfl (hb hby at_166) rfl rfl k) ?_
          show OwnEnds p.tables e below _ (T7.setTop (mkF m 167 #[.val (.int p0), .val (.int p1), .val (.int p2), .val (.ref b1), .val (.int wv), .val (.int ov), .val (.int fv), .val (.int tv0), .val (.ref na), .val (.int x0), .val (.int x1), .val (.int x2), .unset, .unset, .unset, .unset, .unset, .unset, .unset] [(.ref b1)]))
          refine own_via (fun t k => XS.iload X7.here hx rfl (hb hby at_167) rfl k) ?_
          show OwnEnds p.tables e below _ (T7.setTop (mkF m 169 #[.val (.int p0), .val (.int p1), .val (.int p2), .val (.ref b1), .val (.int wv), .val (.int ov), .val (.int fv), .val (.int tv0), .val (.ref na), .val (.int x0), .val (.int x1), .val (.int x2), .unset, .unset, .unset, .unset, .unset, .unset, .unset] [(.int ov), (.ref b1)]))
          refine own_via (fun t k => XS.iconst X7.here hx rfl (hb hby at_169) k) ?_
          show OwnEnds p.tables e below _ (T7.setTop (mkF m 170 #[.val (.int p0), .val (.int p1), .val (.int p2), .val (.ref b1), .val (.int wv), .val (.int ov), .val (.int fv), .val (.int tv0), .val (.ref na), .val (.int x0), .val (.int x1), .val (.int x2), .unset, .unset, .unset, .unset, .unset, .unset, .unset] [(.int (3 : Int32)), (.int ov), (.ref b1)]))
          refine own_via (fun t k => XS.iadd X7.here hx rfl (hb hby at_170) rfl k) ?_
          show OwnEnds p.tables e below _ (T7.setTop (mkF m 171 #[.val (.int p0), .val (.int p1), .val (.int p2), .val (.ref b1), .val (.int wv), .val (.int ov), .val (.int fv), .val (.int tv0), .val (.ref na), .val (.int x0), .val (.int x1), .val (.int x2), .unset, .unset, .unset, .unset, .unset, .unset, .unset] [(.int (ov + (3 : Int32))), (.ref b1)]))
          refine own_via (own_ldB X7 hx hZ e7 A_b1 (v := (.int (ys.getD (k + 3) 0))) (k + 3) (own_addi (b := 3) hk rfl (by omega)) (own_iv_get (by have := own_lN (a := 3) hc163_19 rfl hwd; omega)) (g := (mkF m 171 #[.val (.int p0), .val (.int p1), .val (.int p2), .val (.ref b1), .val (.int wv), .val (.int ov), .val (.int fv), .val (.int tv0), .val (.ref na), .val (.int x0), .val (.int x1), .val (.int x2), .unset, .unset, .unset, .unset, .unset, .unset, .unset] [(.int (ov + (3 : Int32))), (.ref b1)])) rfl rfl (hb hby at_171)) ?_
          show OwnEnds p.tables e below _ (T7.setTop (mkF m 172 #[.val (.int p0), .val (.int p1), .val (.int p2), .val (.ref b1), .val (.int wv), .val (.int ov), .val (.int fv), .val (.int tv0), .val (.ref na), .val (.int x0), .val (.int x1), .val (.int x2), .unset, .unset, .unset, .unset, .unset, .unset, .unset] [(.int (ys.getD (k + 3) 0))]))
          refine own_via (fun t k => XS.sipush X7.here hx rfl (hb hby at_172) k) ?_
          show OwnEnds p.tables e below _ (T7.setTop (mkF m 175 #[.val (.int p0), .val (.int p1), .val (.int p2), .val (.ref b1), .val (.int wv), .val (.int ov), .val (.int fv), .val (.int tv0), .val (.ref na), .val (.int x0), .val (.int x1), .val (.int x2), .unset, .unset, .unset, .unset, .unset, .unset, .unset] [(.int (255 : Int32)), (.int (ys.getD (k + 3) 0))]))
          refine own_via (fun t k => XS.iand X7.here hx rfl (hb hby at_175) rfl k) ?_
          show OwnEnds p.tables e below _ (T7.setTop (mkF m 176 #[.val (.int p0), .val (.int p1), .val (.int p2), .val (.ref b1), .val (.int wv), .val (.int ov), .val (.int fv), .val (.int tv0), .val (.ref na), .val (.int x0), .val (.int x1), .val (.int x2), .unset, .unset, .unset, .unset, .unset, .unset, .unset] [(.int ((ys.getD (k + 3) 0) &&& (255 : Int32)))]))
          refine own_via (fun t k => XS.goto X7.here hx rfl (pc0 := 176) (pc' := 181) rfl (hb hby at_176) (by decide) (by decide) k) ?_
          show OwnEnds p.tables e below _ (T7.setTop (mkF m 181 #[.val (.int p0), .val (.int p1), .val (.int p2), .val (.ref b1), .val (.int wv), .val (.int ov), .val (.int fv), .val (.int tv0), .val (.ref na), .val (.int x0), .val (.int x1), .val (.int x2), .unset, .unset, .unset, .unset, .unset, .unset, .unset] [(.int ((ys.getD (k + 3) 0) &&& (255 : Int32)))]))
          exact J181_10 _ (by simp only [if_pos hc163_19])
        · skip
          refine own_via (fun t k => XS.icmpYes X7.here hx rfl (pc0 := 163) (pc' := 179) rfl (hb hby at_163) rfl (flt hc163_19).2.2.2 (by decide) (by decide) k) ?_
          show OwnEnds p.tables e below _ (T7.setTop (mkF m 179 #[.val (.int p0), .val (.int p1), .val (.int p2), .val (.ref b1), .val (.int wv), .val (.int ov), .val (.int fv), .val (.int tv0), .val (.ref na), .val (.int x0), .val (.int x1), .val (.int x2), .unset, .unset, .unset, .unset, .unset, .unset, .unset] []))
          refine own_via (fun t k => XS.iload X7.here hx rfl (hb hby at_179) rfl k) ?_
          show OwnEnds p.tables e below _ (T7.setTop (mkF m 181 #[.val (.int p0), .val (.int p1), .val (.int p2), .val (.ref b1), .val (.int wv), .val (.int ov), .val (.int fv), .val (.int tv0), .val (.ref na), .val (.int x0), .val (.int x1), .val (.int x2), .unset, .unset, .unset, .unset, .unset, .unset, .unset] [(.int x0)]))
          exact J181_10 _ (by simp only [if_neg hc163_19])
      by_cases hc140_20 : (2 : Int32) < wv
      · skip
        refine own_via (fun t k => XS.icmpNo X7.here hx rfl (hb hby at_140) rfl (tlt hc140_20).2.2.2 k) ?_
        show OwnEnds p.tables e below _ (T7.setTop (mkF m 143 #[.val (.int p0), .val (.int p1), .val (.int p2), .val (.ref b1), .val (.int wv), .val (.int ov), .val (.int fv), .val (.int tv0), .val (.ref na), .val (.int x0), .val (.int x1), .unset, .unset, .unset, .unset, .unset, .unset, .unset, .unset] []))
        refine own_via (fun t k => XS.aloadN X7.here hx rfl (hb hby at_143) rfl rfl k) ?_
        show OwnEnds p.tables e below _ (T7.setTop (mkF m 144 #[.val (.int p0), .val (.int p1), .val (.int p2), .val (.ref b1), .val (.int wv), .val (.int ov), .val (.int fv), .val (.int tv0), .val (.ref na), .val (.int x0), .val (.int x1), .unset, .unset, .unset, .unset, .unset, .unset, .unset, .unset] [(.ref b1)]))
        refine own_via (fun t k => XS.iload X7.here hx rfl (hb hby at_144) rfl k) ?_
        show OwnEnds p.tables e below _ (T7.setTop (mkF m 146 #[.val (.int p0), .val (.int p1), .val (.int p2), .val (.ref b1), .val (.int wv), .val (.int ov), .val (.int fv), .val (.int tv0), .val (.ref na), .val (.int x0), .val (.int x1), .unset, .unset, .unset, .unset, .unset, .unset, .unset, .unset] [(.int ov), (.ref b1)]))
        refine own_via (fun t k => XS.iconst X7.here hx rfl (hb hby at_146) k) ?_
        show OwnEnds p.tables e below _ (T7.setTop (mkF m 147 #[.val (.int p0), .val (.int p1), .val (.int p2), .val (.ref b1), .val (.int wv), .val (.int ov), .val (.int fv), .val (.int tv0), .val (.ref na), .val (.int x0), .val (.int x1), .unset, .unset, .unset, .unset, .unset, .unset, .unset, .unset] [(.int (2 : Int32)), (.int ov), (.ref b1)]))
        refine own_via (fun t k => XS.iadd X7.here hx rfl (hb hby at_147) rfl k) ?_
        show OwnEnds p.tables e below _ (T7.setTop (mkF m 148 #[.val (.int p0), .val (.int p1), .val (.int p2), .val (.ref b1), .val (.int wv), .val (.int ov), .val (.int fv), .val (.int tv0), .val (.ref na), .val (.int x0), .val (.int x1), .unset, .unset, .unset, .unset, .unset, .unset, .unset, .unset] [(.int (ov + (2 : Int32))), (.ref b1)]))
        refine own_via (own_ldB X7 hx hZ e7 A_b1 (v := (.int (ys.getD (k + 2) 0))) (k + 2) (own_addi (b := 2) hk rfl (by omega)) (own_iv_get (by have := own_lN (a := 2) hc140_20 rfl hwd; omega)) (g := (mkF m 148 #[.val (.int p0), .val (.int p1), .val (.int p2), .val (.ref b1), .val (.int wv), .val (.int ov), .val (.int fv), .val (.int tv0), .val (.ref na), .val (.int x0), .val (.int x1), .unset, .unset, .unset, .unset, .unset, .unset, .unset, .unset] [(.int (ov + (2 : Int32))), (.ref b1)])) rfl rfl (hb hby at_148)) ?_
        show OwnEnds p.tables e below _ (T7.setTop (mkF m 149 #[.val (.int p0), .val (.int p1), .val (.int p2), .val (.ref b1), .val (.int wv), .val (.int ov), .val (.int fv), .val (.int tv0), .val (.ref na), .val (.int x0), .val (.int x1), .unset, .unset, .unset, .unset, .unset, .unset, .unset, .unset] [(.int (ys.getD (k + 2) 0))]))
        refine own_via (fun t k => XS.sipush X7.here hx rfl (hb hby at_149) k) ?_
        show OwnEnds p.tables e below _ (T7.setTop (mkF m 152 #[.val (.int p0), .val (.int p1), .val (.int p2), .val (.ref b1), .val (.int wv), .val (.int ov), .val (.int fv), .val (.int tv0), .val (.ref na), .val (.int x0), .val (.int x1), .unset, .unset, .unset, .unset, .unset, .unset, .unset, .unset] [(.int (255 : Int32)), (.int (ys.getD (k + 2) 0))]))
        refine own_via (fun t k => XS.iand X7.here hx rfl (hb hby at_152) rfl k) ?_
        show OwnEnds p.tables e below _ (T7.setTop (mkF m 153 #[.val (.int p0), .val (.int p1), .val (.int p2), .val (.ref b1), .val (.int wv), .val (.int ov), .val (.int fv), .val (.int tv0), .val (.ref na), .val (.int x0), .val (.int x1), .unset, .unset, .unset, .unset, .unset, .unset, .unset, .unset] [(.int ((ys.getD (k + 2) 0) &&& (255 : Int32)))]))
        refine own_via (fun t k => XS.goto X7.here hx rfl (pc0 := 153) (pc' := 158) rfl (hb hby at_153) (by decide) (by decide) k) ?_
        show OwnEnds p.tables e below _ (T7.setTop (mkF m 158 #[.val (.int p0), .val (.int p1), .val (.int p2), .val (.ref b1), .val (.int wv), .val (.int ov), .val (.int fv), .val (.int tv0), .val (.ref na), .val (.int x0), .val (.int x1), .unset, .unset, .unset, .unset, .unset, .unset, .unset, .unset] [(.int ((ys.getD (k + 2) 0) &&& (255 : Int32)))]))
        exact J158_9 _ (by simp only [if_pos hc140_20])
      · skip
        refine own_via (fun t k => XS.icmpYes X7.here hx rfl (pc0 := 140) (pc' := 156) rfl (hb hby at_140) rfl (flt hc140_20).2.2.2 (by decide) (by decide) k) ?_
        show OwnEnds p.tables e below _ (T7.setTop (mkF m 156 #[.val (.int p0), .val (.int p1), .val (.int p2), .val (.ref b1), .val (.int wv), .val (.int ov), .val (.int fv), .val (.int tv0), .val (.ref na), .val (.int x0), .val (.int x1), .unset, .unset, .unset, .unset, .unset, .unset, .unset, .unset] []))
        refine own_via (fun t k => XS.iload X7.here hx rfl (hb hby at_156) rfl k) ?_
        show OwnEnds p.tables e below _ (T7.setTop (mkF m 158 #[.val (.int p0), .val (.int p1), .val (.int p2), .val (.ref b1), .val (.int wv), .val (.int ov), .val (.int fv), .val (.int tv0), .val (.ref na), .val (.int x0), .val (.int x1), .unset, .unset, .unset, .unset, .unset, .unset, .unset, .unset] [(.int x0)]))
        exact J158_9 _ (by simp only [if_neg hc140_20])
    by_cases hc117_21 : (1 : Int32) < wv
    · skip
      refine own_via (fun t k => XS.icmpNo X7.here hx rfl (hb hby at_117) rfl (tlt hc117_21).2.2.2 k) ?_
      show OwnEnds p.tables e below _ (T7.setTop (mkF m 120 #[.val (.int p0), .val (.int p1), .val (.int p2), .val (.ref b1), .val (.int wv), .val (.int ov), .val (.int fv), .val (.int tv0), .val (.ref na), .val (.int x0), .unset, .unset, .unset, .unset, .unset, .unset, .unset, .unset, .unset] []))
      refine own_via (fun t k => XS.aloadN X7.here hx rfl (hb hby at_120) rfl rfl k) ?_
      show OwnEnds p.tables e below _ (T7.setTop (mkF m 121 #[.val (.int p0), .val (.int p1), .val (.int p2), .val (.ref b1), .val (.int wv), .val (.int ov), .val (.int fv), .val (.int tv0), .val (.ref na), .val (.int x0), .unset, .unset, .unset, .unset, .unset, .unset, .unset, .unset, .unset] [(.ref b1)]))
      refine own_via (fun t k => XS.iload X7.here hx rfl (hb hby at_121) rfl k) ?_
      show OwnEnds p.tables e below _ (T7.setTop (mkF m 123 #[.val (.int p0), .val (.int p1), .val (.int p2), .val (.ref b1), .val (.int wv), .val (.int ov), .val (.int fv), .val (.int tv0), .val (.ref na), .val (.int x0), .unset, .unset, .unset, .unset, .unset, .unset, .unset, .unset, .unset] [(.int ov), (.ref b1)]))
      refine own_via (fun t k => XS.iconst X7.here hx rfl (hb hby at_123) k) ?_
      show OwnEnds p.tables e below _ (T7.setTop (mkF m 124 #[.val (.int p0), .val (.int p1), .val (.int p2), .val (.ref b1), .val (.int wv), .val (.int ov), .val (.int fv), .val (.int tv0), .val (.ref na), .val (.int x0), .unset, .unset, .unset, .unset, .unset, .unset, .unset, .unset, .unset] [(.int (1 : Int32)), (.int ov), (.ref b1)]))
      refine own_via (fun t k => XS.iadd X7.here hx rfl (hb hby at_124) rfl k) ?_
      show OwnEnds p.tables e below _ (T7.setTop (mkF m 125 #[.val (.int p0), .val (.int p1), .val (.int p2), .val (.ref b1), .val (.int wv), .val (.int ov), .val (.int fv), .val (.int tv0), .val (.ref na), .val (.int x0), .unset, .unset, .unset, .unset, .unset, .unset, .unset, .unset, .unset] [(.int (ov + (1 : Int32))), (.ref b1)]))
      refine own_via (own_ldB X7 hx hZ e7 A_b1 (v := (.int (ys.getD (k + 1) 0))) (k + 1) (own_addi (b := 1) hk rfl (by omega)) (own_iv_get (by have := own_lN (a := 1) hc117_21 rfl hwd; omega)) (g := (mkF m 125 #[.val (.int p0), .val (.int p1), .val (.int p2), .val (.ref b1), .val (.int wv), .val (.int ov), .val (.int fv), .val (.int tv0), .val (.ref na), .val (.int x0), .unset, .unset, .unset, .unset, .unset, .unset, .unset, .unset, .unset] [(.int (ov + (1 : Int32))), (.ref b1)])) rfl rfl (hb hby at_125)) ?_
      show OwnEnds p.tables e below _ (T7.setTop (mkF m 126 #[.val (.int p0), .val (.int p1), .val (.int p2), .val (.ref b1), .val (.int wv), .val (.int ov), .val (.int fv), .val (.int tv0), .val (.ref na), .val (.int x0), .unset, .unset, .unset, .unset, .unset, .unset, .unset, .unset, .unset] [(.int (ys.getD (k + 1) 0))]))
      refine own_via (fun t k => XS.sipush X7.here hx rfl (hb hby at_126) k) ?_
      show OwnEnds p.tables e below _ (T7.setTop (mkF m 129 #[.val (.int p0), .val (.int p1), .val (.int p2), .val (.ref b1), .val (.int wv), .val (.int ov), .val (.int fv), .val (.int tv0), .val (.ref na), .val (.int x0), .unset, .unset, .unset, .unset, .unset, .unset, .unset, .unset, .unset] [(.int (255 : Int32)), (.int (ys.getD (k + 1) 0))]))
      refine own_via (fun t k => XS.iand X7.here hx rfl (hb hby at_129) rfl k) ?_
      show OwnEnds p.tables e below _ (T7.setTop (mkF m 130 #[.val (.int p0), .val (.int p1), .val (.int p2), .val (.ref b1), .val (.int wv), .val (.int ov), .val (.int fv), .val (.int tv0), .val (.ref na), .val (.int x0), .unset, .unset, .unset, .unset, .unset, .unset, .unset, .unset, .unset] [(.int ((ys.getD (k + 1) 0) &&& (255 : Int32)))]))
      refine own_via (fun t k => XS.goto X7.here hx rfl (pc0 := 130) (pc' := 135) rfl (hb hby at_130) (by decide) (by decide) k) ?_
      show OwnEnds p.tables e below _ (T7.setTop (mkF m 135 #[.val (.int p0), .val (.int p1), .val (.int p2), .val (.ref b1), .val (.int wv), .val (.int ov), .val (.int fv), .val (.int tv0), .val (.ref na), .val (.int x0), .unset, .unset, .unset, .unset, .unset, .unset, .unset, .unset, .unset] [(.int ((ys.getD (k + 1) 0) &&& (255 : Int32)))]))
      exact J135_8 _ (by simp only [if_pos hc117_21])
    · skip
      refine own_via (fun t k => XS.icmpYes X7.here hx rfl (pc0 := 117) (pc' := 133) rfl (hb hby at_117) rfl (flt hc117_21).2.2.2 (by decide) (by decide) k) ?_
      show OwnEnds p.tables e below _ (T7.setTop (mkF m 133 #[.val (.int p0), .val (.int p1), .val (.int p2), .val (.ref b1), .val (.int wv), .val (.int ov), .val (.int fv), .val (.int tv0), .val (.ref na), .val (.int x0), .unset, .unset, .unset, .unset, .unset, .unset, .unset, .unset, .unset] []))
      refine own_via (fun t k => XS.iload X7.here hx rfl (hb hby at_133) rfl k) ?_
      show OwnEnds p.tables e below _ (T7.setTop (mkF m 135 #[.val (.int p0), .val (.int p1), .val (.int p2), .val (.ref b1), .val (.int wv), .val (.int ov), .val (.int fv), .val (.int tv0), .val (.ref na), .val (.int x0), .unset, .unset, .unset, .unset, .unset, .unset, .unset, .unset, .unset] [(.int x0)]))
      exact J135_8 _ (by simp only [if_neg hc117_21])
  · skip
    obtain ⟨_, _, ⟨T22, L22, k22, n22⟩, -, X22, ⟨Lc22, hQ22, l22, y22, z22⟩, st22⟩ := Jvm.LawKit.callS X6 hx (y := (⟨"com/example/shelfmark/shelfmark/Scanline", "elements", "([BIIII)[I"⟩ : MethodName)) hown (mvT hZ (hw _ (List.mem_of_getElem? (i := 1) rfl))) (mvT hZ (hw _ (List.mem_of_getElem? (i := 2) rfl))) (mvT hZ (hw _ (List.mem_of_getElem? (i := 3) rfl))) (mvT hZ (hw _ (List.mem_of_getElem? (i := 4) rfl))) (by decide) (backOf (W := 0) (rm1b l Z aw hw [] b1 ov wv fv tv0 ys k wd fN tN h6 n0 Zs_W6 A_b1 hk hwd hfN htN hlen hkw hw4 hft htw hlt) hZ (hw _ (List.mem_of_getElem? (i := 4) rfl)) (hw _ (List.mem_of_getElem? (i := 3) rfl)) (by decide) (by decide)) (g := (mkF m 99 #[.val (.int p0), .val (.int p1), .val (.int p2), .val (.ref b1), .val (.int wv), .val (.int ov), .val (.int fv), .val (.int tv0), .unset, .unset, .unset, .unset, .unset, .unset, .unset, .unset, .unset, .unset, .unset] [(.int tv0), (.int fv), (.int wv), (.int ov), (.ref b1)])) rfl (by rw [hml]; rfl) (argsL := [(.ref b1), (.int ov), (.int wv), (.int fv), (.int tv0)]) (rest := []) (lenOf pd_0 rfl) rfl (by show 2 * 0 + _ ≤ _; exact Nat.le_of_eq rfl) (hb hby at_99) (fun _ _ => ⟨rfl, e6, (by decide : 1 + 2 ≤ _), (by decide : 5 + 12 ≤ _)⟩)
    dsimp only [Pt.U, Pt.locs, Pt.cells, Pt.slots] at X22 l22 y22 z22 st22 hQ22
    subst l22 y22 z22
    obtain ⟨h22, e22⟩ : ∃ z, T22.heap = z := ⟨_, rfl⟩
    rw [e22] at hQ22
    obtain ⟨gt, rfl, Nq22, K22, sz_gt', Y22_0⟩ := hQ22
    have N22 := Fr.app N6 Nq22
    have ne_b1_gt : b1 ≠ gt := Nat.ne_of_lt (Nat.lt_of_lt_of_le A_b1.lt sz_gt')
    have ne_na_gt : na ≠ gt := Nat.ne_of_lt (Nat.lt_of_lt_of_le A_na.lt sz_gt')
    have g_gt : n0 ≤ gt := Nat.le_trans Zs_W6 sz_gt'
    replace A_na := A_na.keep K22 nin0
    replace A_b1 := A_b1.keep K22 nin0
    have A_gt : AL Z h22 gt .int (own_iv (own_res ys k wd fN tN fv tv0)) := Y22_0
    replace O0 := O0.keep K22 all0
    have Zs_22 : n0 ≤ _ := Nat.le_trans Zs_W6 K22.1
    refine own_via st22 ?_
    show OwnEnds p.tables e below _ (T22.setTop (mkF m 102 #[.val (.int p0), .val (.int p1), .val (.int p2), .val (.ref b1), .val (.int wv), .val (.int ov), .val (.int fv), .val (.int tv0), .unset, .unset, .unset, .unset, .unset, .unset, .unset, .unset, .unset, .unset, .unset] [(.ref gt)]))
    refine own_via (fun t k => XS.astore X22.here hx rfl (hb hby at_102) rfl rfl (l' := #[.val (.int p0), .val (.int p1), .val (.int p2), .val (.ref b1), .val (.int wv), .val (.int ov), .val (.int fv), .val (.int tv0), .val (.ref gt), .unset, .unset, .unset, .unset, .unset, .unset, .unset, .unset, .unset, .unset]) rfl k) ?_
    show OwnEnds p.tables e below _ (T22.setTop (mkF m 104 #[.val (.int p0), .val (.int p1), .val (.int p2), .val (.ref b1), .val (.int wv), .val (.int ov), .val (.int fv), .val (.int tv0), .val (.ref gt), .unset, .unset, .unset, .unset, .unset, .unset, .unset, .unset, .unset, .unset] []))
    refine own_via (fun t k => XS.aloadN X22.here hx rfl (hb hby at_104) rfl rfl k) ?_
    show OwnEnds p.tables e below _ (T22.setTop (mkF m 105 #[.val (.int p0), .val (.int p1), .val (.int p2), .val (.ref b1), .val (.int wv), .val (.int ov), .val (.int fv), .val (.int tv0), .val (.ref gt), .unset, .unset, .unset, .unset, .unset, .unset, .unset, .unset, .unset, .unset] [(.ref b1)]))
    refine own_via (fun t k => XS.iload X22.here hx rfl (hb hby at_105) rfl k) ?_
    show OwnEnds p.tables e below _ (T22.setTop (mkF m 107 #[.val (.int p0), .val (.int p1), .val (.int p2), .val (.ref b1), .val (.int wv), .val (.int ov), .val (.int fv), .val (.int tv0), .val (.ref gt), .unset, .unset, .unset, .unset, .unset, .unset, .unset, .unset, .unset, .unset] [(.int ov), (.ref b1)]))
    refine own_via (own_ldB X22 hx hZ e22 A_b1 (v := (.int (ys.getD k 0))) k hk (own_iv_get (by omega)) (g := (mkF m 107 #[.val (.int p0), .val (.int p1), .val (.int p2), .val (.ref b1), .val (.int wv), .val (.int ov), .val (.int fv), .val (.int tv0), .val (.ref gt), .unset, .unset, .unset, .unset, .unset, .unset, .unset, .unset, .unset, .unset] [(.int ov), (.ref b1)])) rfl rfl (hb hby at_107)) ?_
    show OwnEnds p.tables e below _ (T22.setTop (mkF m 108 #[.val (.int p0), .val (.int p1), .val (.int p2), .val (.ref b1), .val (.int wv), .val (.int ov), .val (.int fv), .val (.int tv0), .val (.ref gt), .unset, .unset, .unset, .unset, .unset, .unset, .unset, .unset, .unset, .unset] [(.int (ys.getD k 0))]))
    refine own_via (fun t k => XS.sipush X22.here hx rfl (hb hby at_108) k) ?_
    show OwnEnds p.tables e below _ (T22.setTop (mkF m 111 #[.val (.int p0), .val (.int p1), .val (.int p2), .val (.ref b1), .val (.int wv), .val (.int ov), .val (.int fv), .val (.int tv0), .val (.ref gt), .unset, .unset, .unset, .unset, .unset, .unset, .unset, .unset, .unset, .unset] [(.int (255 : Int32)), (.int (ys.getD k 0))]))
    refine own_via (fun t k => XS.iand X22.here hx rfl (hb hby at_111) rfl k) ?_
    show OwnEnds p.tables e below _ (T22.setTop (mkF m 112 #[.val (.int p0), .val (.int p1), .val (.int p2), .val (.ref b1), .val (.int wv), .val (.int ov), .val (.int fv), .val (.int tv0), .val (.ref gt), .unset, .unset, .unset, .unset, .unset, .unset, .unset, .unset, .unset, .unset] [(.int ((ys.getD k 0) &&& (255 : Int32)))]))
    obtain ⟨x0, h_x0⟩ : ∃ z, z = ((ys.getD k 0) &&& (255 : Int32)) := ⟨_, rfl⟩
    rw [← h_x0]
    refine own_via (fun t k => XS.istore X22.here hx rfl (hb hby at_112) rfl (l' := #[.val (.int p0), .val (.int p1), .val (.int p2), .val (.ref b1), .val (.int wv), .val (.int ov), .val (.int fv), .val (.int tv0), .val (.ref gt), .val (.int x0), .unset, .unset, .unset, .unset, .unset, .unset, .unset, .unset, .unset]) rfl k) ?_
    show OwnEnds p.tables e below _ (T22.setTop (mkF m 114 #[.val (.int p0), .val (.int p1), .val (.int p2), .val (.ref b1), .val (.int wv), .val (.int ov), .val (.int fv), .val (.int tv0), .val (.ref gt), .val (.int x0), .unset, .unset, .unset, .unset, .unset, .unset, .unset, .unset, .unset] []))
    refine own_via (fun t k => XS.iload X22.here hx rfl (hb hby at_114) rfl k) ?_
    show OwnEnds p.tables e below _ (T22.setTop (mkF m 116 #[.val (.int p0), .val (.int p1), .val (.int p2), .val (.ref b1), .val (.int wv), .val (.int ov), .val (.int fv), .val (.int tv0), .val (.ref gt), .val (.int x0), .unset, .unset, .unset, .unset, .unset, .unset, .unset, .unset, .unset] [(.int wv)]))
    refine own_via (fun t k => XS.iconst X22.here hx rfl (hb hby at_116) k) ?_
    show OwnEnds p.tables e below _ (T22.setTop (mkF m 117 #[.val (.int p0), .val (.int p1), .val (.int p2), .val (.ref b1), .val (.int wv), .val (.int ov), .val (.int fv), .val (.int tv0), .val (.ref gt), .val (.int x0), .unset, .unset, .unset, .unset, .unset, .unset, .unset, .unset, .unset] [(.int (1 : Int32)), (.int wv)]))
    have J135_23 : ∀ x1 : Int32, x1 = (if (1 : Int32) < wv then ((ys.getD (k + 1) 0) &&& (255 : Int32)) else x0) → OwnEnds p.tables e below (OwnQ s 24 128 (Q0 Z p0 p1 p2 na h0 n0)) (T22.setTop (mkF m 135 #[.val (.int p0), .val (.int p1), .val (.int p2), .val (.ref b1), .val (.int wv), .val (.int ov), .val (.int fv), .val (.int tv0), .val (.ref gt), .val (.int x0), .unset, .unset, .unset, .unset, .unset, .unset, .unset, .unset, .unset] [(.int x1)])) := by
      intro x1 h_x1
      refine own_via (fun t k => XS.istore X22.here hx rfl (hb hby at_135) rfl (l' := #[.val (.int p0), .val (.int p1), .val (.int p2), .val (.ref b1), .val (.int wv), .val (.int ov), .val (.int fv), .val (.int tv0), .val (.ref gt), .val (.int x0), .val (.int x1), .unset, .unset, .unset, .unset, .unset, .unset, .unset, .unset]) rfl k) ?_
      show OwnEnds p.tables e below _ (T22.setTop (mkF m 137 #[.val (.int p0), .val (.int p1), .val (.int p2), .val (.ref b1), .val (.int wv), .val (.int ov), .val (.int fv), .val (.int tv0), .val (.ref gt), .val (.int x0), .val (.int x1), .unset, .unset, .unset, .unset, .unset, .unset, .unset, .unset] []))
      refine own_via (fun t k => XS.iload X22.here hx rfl (hb hby at_137) rfl k) ?_
      show OwnEnds p.tables e below _ (T22.setTop (mkF m 139 #[.val (.int p0), .val (.int p1), .val (.int p2), .val (.ref b1), .val (.int wv), .val (.int ov), .val (.int fv), .val (.int tv0), .val (.ref gt), .val (.int x0), .val (.int x1), .unset, .unset, .unset, .unset, .unset, .unset, .unset, .unset] [(.int wv)]))
      refine own_via (fun t k => XS.iconst X22.here hx rfl (hb hby at_139) k) ?_
      show OwnEnds p.tables e below _ (T22.setTop (mkF m 140 #[.val (.int p0), .val (.int p1), .val (.int p2), .val (.ref b1), .val (.int wv), .val (.int ov), .val (.int fv), .val (.int tv0), .val (.ref gt), .val (.int x0), .val (.int x1), .unset, .unset, .unset, .unset, .unset, .unset, .unset, .unset] [(.int (2 : Int32)), (.int wv)]))
      have J158_24 : ∀ x2 : Int32, x2 = (if (2 : Int32) < wv then ((ys.getD (k + 2) 0) &&& (255 : Int32)) else x0) → OwnEnds p.tables e below (OwnQ s 24 128 (Q0 Z p0 p1 p2 na h0 n0)) (T22.setTop (mkF m 158 #[.val (.int p0), .val (.int p1), .val (.int p2), .val (.ref b1), .val (.int wv), .val (.int ov), .val (.int fv), .val (.int tv0), .val (.ref gt), .val (.int x0), .val (.int x1), .unset, .unset, .unset, .unset, .unset, .unset, .unset, .unset] [(.int x2)])) := by
        intro x2 h_x2
        refine own_via (fun t k => XS.istore X22.here hx rfl (hb hby at_158) rfl (l' := #[.val (.int p0), .val (.int p1), .val (.int p2), .val (.ref b1), .val (.int wv), .val (.int ov), .val (.int fv), .val (.int tv0), .val (.ref gt), .val (.int x0), .val (.int x1), .val (.int x2), .unset, .unset, .unset, .unset, .unset, .unset, .unset]) rfl k) ?_
        show OwnEnds p.tables e below _ (T22.setTop (mkF m 160 #[.val (.int p0), .val (.int p1), .val (.int p2), .val (.ref b1), .val (.int wv), .val (.int ov), .val (.int fv), .val (.int tv0), .val (.ref gt), .val (.int x0), .val (.int x1), .val (.int x2), .unset, .unset, .unset, .unset, .unset, .unset, .unset] []))
        refine own_via (fun t k => XS.iload X22.here hx rfl (hb hby at_160) rfl k) ?_
        show OwnEnds p.tables e below _ (T22.setTop (mkF m 162 #[.val (.int p0), .val (.int p1), .val (.int p2), .val (.ref b1), .val (.int wv), .val (.int ov), .val (.int fv), .val (.int tv0), .val (.ref gt), .val (.int x0), .val (.int x1), .val (.int x2), .unset, .unset, .unset, .unset, .unset, .unset, .unset] [(.int wv)]))
        refine own_via (fun t k => XS.iconst X22.here hx rfl (hb hby at_162) k) ?_
        show OwnEnds p.tables e below _ (T22.setTop (mkF m 163 #[.val (.int p0), .val (.int p1), .val (.int p2), .val (.ref b1), .val (.int wv), .val (.int ov), .val (.int fv), .val (.int tv0), .val (.ref gt), .val (.int x0), .val (.int x1), .val (.int x2), .unset, .unset, .unset, .unset, .unset, .unset, .unset] [(.int (3 : Int32)), (.int wv)]))
        have J181_25 : ∀ x3 : Int32, x3 = (if (3 : Int32) < wv then ((ys.getD (k + 3) 0) &&& (255 : Int32)) else x0) → OwnEnds p.tables e below (OwnQ s 24 128 (Q0 Z p0 p1 p2 na h0 n0)) (T22.setTop (mkF m 181 #[.val (.int p0), .val (.int p1), .val (.int p2), .val (.ref b1), .val (.int wv), .val (.int ov), .val (.int fv), .val (.int tv0), .val (.ref gt), .val (.int x0), .val (.int x1), .val (.int x2), .unset, .unset, .unset, .unset, .unset, .unset, .unset] [(.int x3)])) := by
          intro x3 h_x3
          refine own_via (fun t k => XS.istore X22.here hx rfl (hb hby at_181) rfl (l' := #[.val (.int p0), .val (.int p1), .val (.int p2), .val (.ref b1), .val (.int wv), .val (.int ov), .val (.int fv), .val (.int tv0), .val (.ref gt), .val (.int x0), .val (.int x1), .val (.int x2), .val (.int x3), .unset, .unset, .unset, .unset, .unset, .unset]) rfl k) ?_
          show OwnEnds p.tables e below _ (T22.setTop (mkF m 183 #[.val (.int p0), .val (.int p1), .val (.int p2), .val (.ref b1), .val (.int wv), .val (.int ov), .val (.int fv), .val (.int tv0), .val (.ref gt), .val (.int x0), .val (.int x1), .val (.int x2), .val (.int x3), .unset, .unset, .unset, .unset, .unset, .unset] []))
          refine own_via (fun t k => XS.iload X22.here hx rfl (hb hby at_183) rfl k) ?_
          show OwnEnds p.tables e below _ (T22.setTop (mkF m 185 #[.val (.int p0), .val (.int p1), .val (.int p2), .val (.ref b1), .val (.int wv), .val (.int ov), .val (.int fv), .val (.int tv0), .val (.ref gt), .val (.int x0), .val (.int x1), .val (.int x2), .val (.int x3), .unset, .unset, .unset, .unset, .unset, .unset] [(.int x0)]))
          refine own_via (fun t k => XS.iload X22.here hx rfl (hb hby at_185) rfl k) ?_
          show OwnEnds p.tables e below _ (T22.setTop (mkF m 187 #[.val (.int p0), .val (.int p1), .val (.int p2), .val (.ref b1), .val (.int wv), .val (.int ov), .val (.int fv), .val (.int tv0), .val (.ref gt), .val (.int x0), .val (.int x1), .val (.int x2), .val (.int x3), .unset, .unset, .unset, .unset, .unset, .unset] [(.int x1), (.int x0)]))
          obtain ⟨_, _, ⟨T26, L26, k26, n26⟩, -, X26, ⟨Lc26, hQ26, l26, y26, z26⟩, st26⟩ := Jvm.LawKit.callS X22 hx (y := (⟨"java/lang/Math", "min", "(II)I"⟩ : MethodName)) hown (mvT hZ (hw _ (List.mem_of_getElem? (i := 7) rfl))) (mvT hZ (hw _ (List.mem_of_getElem? (i := 8) rfl))) (mvT hZ (hw _ (List.mem_of_getElem? (i := 9) rfl))) (mvT hZ (hw _ (List.mem_of_getElem? (i := 10) rfl))) (by decide) (backOf (W := 0) (rm2 l Z aw hw [] x0 x1 h22 n0 Zs_22 ) hZ (hw _ (List.mem_of_getElem? (i := 10) rfl)) (hw _ (List.mem_of_getElem? (i := 9) rfl)) (by decide) (by decide)) (g := (mkF m 187 #[.val (.int p0), .val (.int p1), .val (.int p2), .val (.ref b1), .val (.int wv), .val (.int ov), .val (.int fv), .val (.int tv0), .val (.ref gt), .val (.int x0), .val (.int x1), .val (.int x2), .val (.int x3), .unset, .unset, .unset, .unset, .unset, .unset] [(.int x1), (.int x0)])) rfl (by rw [hml]; rfl) (argsL := [(.int x0), (.int x1)]) (rest := []) (lenOf pd_1 rfl) rfl (by show 2 * 0 + _ ≤ _; exact Nat.le_of_eq rfl) (hb hby at_187) (fun _ _ => ⟨rfl, e22, (by decide : 3 + 0 ≤ _), (by decide : 17 + 0 ≤ _)⟩)
          dsimp only [Pt.U, Pt.locs, Pt.cells, Pt.slots] at X26 l26 y26 z26 st26 hQ26
          subst l26 y26 z26
          obtain ⟨rfl, Nq26, e26⟩ := hQ26
          have N26 := Fr.app N22 Nq26
          replace e26 : T26.heap = h22 := e26
          refine own_via st26 ?_
          show OwnEnds p.tables e below _ (T26.setTop (mkF m 190 #[.val (.int p0), .val (.int p1), .val (.int p2), .val (.ref b1), .val (.int wv), .val (.int ov), .val (.int fv), .val (.int tv0), .val (.ref gt), .val (.int x0), .val (.int x1), .val (.int x2), .val (.int x3), .unset, .unset, .unset, .unset, .unset, .unset] [(.int (own_min x0 x1))]))
          refine own_via (fun t k => XS.iload X26.here hx rfl (hb hby at_190) rfl k) ?_
          show OwnEnds p.tables e below _ (T26.setTop (mkF m 192 #[.val (.int p0), .val (.int p1), .val (.int p2), .val (.ref b1), .val (.int wv), .val (.int ov), .val (.int fv), .val (.int tv0), .val (.ref gt), .val (.int x0), .val (.int x1), .val (.int x2), .val (.int x3), .unset, .unset, .unset, .unset, .unset, .unset] [(.int x2), (.int (own_min x0 x1))]))
          refine own_via (fun t k => XS.iload X26.here hx rfl (hb hby at_192) rfl k) ?_
          show OwnEnds p.tables e below _ (T26.setTop (mkF m 194 #[.val (.int p0), .val (.int p1), .val (.int p2), .val (.ref b1), .val (.int wv), .val (.int ov), .val (.int fv), .val (.int tv0), .val (.ref gt), .val (.int x0), .val (.int x1), .val (.int x2), .val (.int x3), .unset, .unset, .unset, .unset, .unset, .unset] [(.int x3), (.int x2), (.int (own_min x0 x1))]))
          obtain ⟨_, _, ⟨T27, L27, k27, n27⟩, -, X27, ⟨Lc27, hQ27, l27, y27, z27⟩, st27⟩ := Jvm.LawKit.callS X26 hx (y := (⟨"java/lang/Math", "min", "(II)I"⟩ : MethodName)) hown (mvT hZ (hw _ (List.mem_of_getElem? (i := 7) rfl))) (mvT hZ (hw _ (List.mem_of_getElem? (i := 8) rfl))) (mvT hZ (hw _ (List.mem_of_getElem? (i := 9) rfl))) (mvT hZ (hw _ (List.mem_of_getElem? (i := 10) rfl))) (by decide) (backOf (W := 1) (rm2 l Z aw hw [] x2 x3 h22 n0 Zs_22 ) hZ (hw _ (List.mem_of_getElem? (i := 10) rfl)) (hw _ (List.mem_of_getElem? (i := 9) rfl)) (by decide) (by decide)) (g := (mkF m 194 #[.val (.int p0), .val (.int p1), .val (.int p2), .val (.ref b1), .val (.int wv), .val (.int ov), .val (.int fv), .val (.int tv0), .val (.ref gt), .val (.int x0), .val (.int x1), .val (.int x2), .val (.int x3), .unset, .unset, .unset, .unset, .unset, .unset] [(.int x3), (.int x2), (.int (own_min x0 x1))])) rfl (by rw [hml]; rfl) (argsL := [(.int x2), (.int x3)]) (rest := [(.int (own_min x0 x1))]) (lenOf pd_1 rfl) rfl (by show 2 * 0 + _ ≤ _; exact Nat.le_of_eq rfl) (hb hby at_194) (fun _ _ => ⟨rfl, e26, (by decide : 3 + 0 ≤ _), (by decide : 17 + 0 ≤ _)⟩)
          dsimp only [Pt.U, Pt.locs, Pt.cells, Pt.slots] at X27 l27 y27 z27 st27 hQ27
          subst l27 y27 z27
          obtain ⟨rfl, Nq27, e27⟩ := hQ27
          have N27 := Fr.app N26 Nq27
          replace e27 : T27.heap = h22 := e27
          refine own_via st27 ?_
          show OwnEnds p.tables e below _ (T27.setTop (mkF m 197 #[.val (.int p0), .val (.int p1), .val (.int p2), .val (.ref b1), .val (.int wv), .val (.int ov), .val (.int fv), .val (.int tv0), .val (.ref gt), .val (.int x0), .val (.int x1), .val (.int x2), .val (.int x3), .unset, .unset, .unset, .unset, .unset, .unset] [(.int (own_min x2 x3)), (.int (own_min x0 x1))]))
          obtain ⟨_, _, ⟨T28, L28, k28, n28⟩, -, X28, ⟨Lc28, hQ28, l28, y28, z28⟩, st28⟩ := Jvm.LawKit.callS X27 hx (y := (⟨"java/lang/Math", "min", "(II)I"⟩ : MethodName)) hown (mvT hZ (hw _ (List.mem_of_getElem? (i := 7) rfl))) (mvT hZ (hw _ (List.mem_of_getElem? (i := 8) rfl))) (mvT hZ (hw _ (List.mem_of_getElem? (i := 9) rfl))) (mvT hZ (hw _ (List.mem_of_getElem? (i := 10) rfl))) (by decide) (backOf (W := 0) (rm2 l Z aw hw [] (own_min x0 x1) (own_min x2 x3) h22 n0 Zs_22 ) hZ (hw _ (List.mem_of_getElem? (i := 10) rfl)) (hw _ (List.mem_of_getElem? (i := 9) rfl)) (by decide) (by decide)) (g := (mkF m 197 #[.val (.int p0), .val (.int p1), .val (.int p2), .val (.ref b1), .val (.int wv), .val (.int ov), .val (.int fv), .val (.int tv0), .val (.ref gt), .val (.int x0), .val (.int x1), .val (.int x2), .val (.int x3), .unset, .unset, .unset, .unset, .unset, .unset] [(.int (own_min x2 x3)), (.int (own_min x0 x1))])) rfl (by rw [hml]; rfl) (argsL := [(.int (own_min x0 x1)), (.int (own_min x2 x3))]) (rest := []) (lenOf pd_1 rfl) rfl (by show 2 * 0 + _ ≤ _; exact Nat.le_of_eq rfl) (hb hby at_197) (fun _ _ => ⟨rfl, e27, (by decide : 3 + 0 ≤ _), (by decide : 17 + 0 ≤ _)⟩)
          dsimp only [Pt.U, Pt.locs, Pt.cells, Pt.slots] at X28 l28 y28 z28 st28 hQ28
          subst l28 y28 z28
          obtain ⟨rfl, Nq28, e28⟩ := hQ28
          have N28 := Fr.app N27 Nq28
          replace e28 : T28.heap = h22 := e28
          refine own_via st28 ?_
          show OwnEnds p.tables e below _ (T28.setTop (mkF m 200 #[.val (.int p0), .val (.int p1), .val (.int p2), .val (.ref b1), .val (.int wv), .val (.int ov), .val (.int fv), .val (.int tv0), .val (.ref gt), .val (.int x0), .val (.int x1), .val (.int x2), .val (.int x3), .unset, .unset, .unset, .unset, .unset, .unset] [(.int (own_min (own_min x0 x1) (own_min x2 x3)))]))
          obtain ⟨mn, h_mn⟩ : ∃ z, z = (own_min (own_min x0 x1) (own_min x2 x3)) := ⟨_, rfl⟩
          rw [← h_mn]
          refine own_via (fun t k => XS.istore X28.here hx rfl (hb hby at_200) rfl (l' := #[.val (.int p0), .val (.int p1), .val (.int p2), .val (.ref b1), .val (.int wv), .val (.int ov), .val (.int fv), .val (.int tv0), .val (.ref gt), .val (.int x0), .val (.int x1), .val (.int x2), .val (.int x3), .val (.int mn), .unset, .unset, .unset, .unset, .unset]) rfl k) ?_
          show OwnEnds p.tables e below _ (T28.setTop (mkF m 202 #[.val (.int p0), .val (.int p1), .val (.int p2), .val (.ref b1), .val (.int wv), .val (.int ov), .val (.int fv), .val (.int tv0), .val (.ref gt), .val (.int x0), .val (.int x1), .val (.int x2), .val (.int x3), .val (.int mn), .unset, .unset, .unset, .unset, .unset] []))
          refine own_via (fun t k => XS.iload X28.here hx rfl (hb hby at_202) rfl k) ?_
          show OwnEnds p.tables e below _ (T28.setTop (mkF m 204 #[.val (.int p0), .val (.int p1), .val (.int p2), .val (.ref b1), .val (.int wv), .val (.int ov), .val (.int fv), .val (.int tv0), .val (.ref gt), .val (.int x0), .val (.int x1), .val (.int x2), .val (.int x3), .val (.int mn), .unset, .unset, .unset, .unset, .unset] [(.int x0)]))
          refine own_via (fun t k => XS.iload X28.here hx rfl (hb hby at_204) rfl k) ?_
          show OwnEnds p.tables e below _ (T28.setTop (mkF m 206 #[.val (.int p0), .val (.int p1), .val (.int p2), .val (.ref b1), .val (.int wv), .val (.int ov), .val (.int fv), .val (.int tv0), .val (.ref gt), .val (.int x0), .val (.int x1), .val (.int x2), .val (.int x3), .val (.int mn), .unset, .unset, .unset, .unset, .unset] [(.int x1), (.int x0)]))
          obtain ⟨_, _, ⟨T29, L29, k29, n29⟩, -, X29, ⟨Lc29, hQ29, l29, y29, z29⟩, st29⟩ := Jvm.LawKit.callS X28 hx (y := (⟨"java/lang/Math", "max", "(II)I"⟩ : MethodName)) hown (mvT hZ (hw _ (List.mem_of_getElem? (i := 11) rfl))) (mvT hZ (hw _ (List.mem_of_getElem? (i := 12) rfl))) (mvT hZ (hw _ (List.mem_of_getElem? (i := 9) rfl))) (mvT hZ (hw _ (List.mem_of_getElem? (i := 13) rfl))) (by decide) (backOf (W := 0) (rm3 l Z aw hw [] x0 x1 h22 n0 Zs_22 ) hZ (hw _ (List.mem_of_getElem? (i := 13) rfl)) (hw _ (List.mem_of_getElem? (i := 9) rfl)) (by decide) (by decide)) (g := (mkF m 206 #[.val (.int p0), .val (.int p1), .val (.int p2), .val (.ref b1), .val (.int wv), .val (.int ov), .val (.int fv), .val (.int tv0), .val (.ref gt), .val (.int x0), .val (.int x1), .val (.int x2), .val (.int x3), .val (.int mn), .unset, .unset, .unset, .unset, .unset] [(.int x1), (.int x0)])) rfl (by rw [hml]; rfl) (argsL := [(.int x0), (.int x1)]) (rest := []) (lenOf pd_1 rfl) rfl (by show 2 * 0 + _ ≤ _; exact Nat.le_of_eq rfl) (hb hby at_206) (fun _ _ => ⟨rfl, e28, (by decide : 3 + 0 ≤ _), (by decide : 17 + 0 ≤ _)⟩)
          dsimp only [Pt.U, Pt.locs, Pt.cells, Pt.slots] at X29 l29 y29 z29 st29 hQ29
          subst l29 y29 z29
          obtain ⟨rfl, Nq29, e29⟩ := hQ29
          have N29 := Fr.app N28 Nq29
          replace e29 : T29.heap = h22 := e29
          refine own_via st29 ?_
          show OwnEnds p.tables e below _ (T29.setTop (mkF m 209 #[.val (.int p0), .val (.int p1), .val (.int p2), .val (.ref b1), .val (.int wv), .val (.int ov), .val (.int fv), .val (.int tv0), .val (.ref gt), .val (.int x0), .val (.int x1), .val (.int x2), .val (.int x3), .val (.int mn), .unset, .unset, .unset, .unset, .unset] [(.int (own_max x0 x1))]))
          refine own_via (fun t k => XS.iload X29.here hx rfl (hb hby at_209) rfl k) ?_
          show OwnEnds p.tables e below _ (T29.setTop (mkF m 211 #[.val (.int p0), .val (.int p1), .val (.int p2), .val (.ref b1), .val (.int wv), .val (.int ov), .val (.int fv), .val (.int tv0), .val (.ref gt), .val (.int x0), .val (.int x1), .val (.int x2), .val (.int x3), .val (.int mn), .unset, .unset, .unset, .unset, .unset] [(.int x2), (.int (own_max x0 x1))]))
          refine own_via (fun t k => XS.iload X29.here hx rfl (hb hby at_211) rfl k) ?_
          show OwnEnds p.tables e below _ (T29.setTop (mkF m 213 #[.val (.int p0), .val (.int p1), .val (.int p2), .val (.ref b1), .val (.int wv), .val (.int ov), .val (.int fv), .val (.int tv0), .val (.ref gt), .val (.int x0), .val (.int x1), .val (.int x2), .val (.int x3), .val (.int mn), .unset, .unset, .unset, .unset, .unset] [(.int x3), (.int x2), (.int (own_max x0 x1))]))
          obtain ⟨_, _, ⟨T30, L30, k30, n30⟩, -, X30, ⟨Lc30, hQ30, l30, y30, z30⟩, st30⟩ := Jvm.LawKit.callS X29 hx (y := (⟨"java/lang/Math", "max", "(II)I"⟩ : MethodName)) hown (mvT hZ (hw _ (List.mem_of_getElem? (i := 11) rfl))) (mvT hZ (hw _ (List.mem_of_getElem? (i := 12) rfl))) (mvT hZ (hw _ (List.mem_of_getElem? (i := 9) rfl))) (mvT hZ (hw _ (List.mem_of_getElem? (i := 13) rfl))) (by decide) (backOf (W := 1) (rm3 l Z aw hw [] x2 x3 h22 n0 Zs_22 ) hZ (hw _ (List.mem_of_getElem? (i := 13) rfl)) (hw _ (List.mem_of_getElem? (i := 9) rfl)) (by decide) (by decide)) (g := (mkF m 213 #[.val (.int p0), .val (.int p1), .val (.int p2), .val (.ref b1), .val (.int wv), .val (.int ov), .val (.int fv), .val (.int tv0), .val (.ref gt), .val (.int x0), .val (.int x1), .val (.int x2), .val (.int x3), .val (.int mn), .unset, .unset, .unset, .unset, .unset] [(.int x3), (.int x2), (.int (own_max x0 x1))])) rfl (by rw [hml]; rfl) (argsL := [(.int x2), (.int x3)]) (rest := [(.int (own_max x0 x1))]) (lenOf pd_1 rfl) rfl (by show 2 * 0 + _ ≤ _; exact Nat.le_of_eq rfl) (hb hby at_213) (fun _ _ => ⟨rfl, e29, (by decide : 3 + 0 ≤ _), (by decide : 17 + 0 ≤ _)⟩)
          dsimp only [Pt.U, Pt.locs, Pt.cells, Pt.slots] at X30 l30 y30 z30 st30 hQ30
          subst l30 y30 z30
          obtain ⟨rfl, Nq30, e30⟩ := hQ30
          have N30 := Fr.app N29 Nq30
          replace e30 : T30.heap = h22 := e30
          refine own_via st30 ?_
          show OwnEnds p.tables e below _ (T30.setTop (mkF m 216 #[.val (.int p0), .val (.int p1), .val (.int p2), .val (.ref b1), .val (.int wv), .val (.int ov), .val (.int fv), .val (.int tv0), .val (.ref gt), .val (.int x0), .val (.int x1), .val (.int x2), .val (.int x3), .val (.int mn), .unset, .unset, .unset, .unset, .unset] [(.int (own_max x2 x3)), (.int (own_max x0 x1))]))
          obtain ⟨_, _, ⟨T31, L31, k31, n31⟩, -, X31, ⟨Lc31, hQ31, l31, y31, z31⟩, st31⟩ := Jvm.LawKit.callS X30 hx (y := (⟨"java/lang/Math", "max", "(II)I"⟩ : MethodName)) hown (mvT hZ (hw _ (List.mem_of_getElem? (i := 11) rfl))) (mvT hZ (hw _ (List.mem_of_getElem? (i := 12) rfl))) (mvT hZ (hw _ (List.mem_of_getElem? (i := 9) rfl))) (mvT hZ (hw _ (List.mem_of_getElem? (i := 13) rfl))) (by decide) (backOf (W := 0) (rm3 l Z aw hw [] (own_max x0 x1) (own_max x2 x3) h22 n0 Zs_22 ) hZ (hw _ (List.mem_of_getElem? (i := 13) rfl)) (hw _ (List.mem_of_getElem? (i := 9) rfl)) (by decide) (by decide)) (g := (mkF m 216 #[.val (.int p0), .val (.int p1), .val (.int p2), .val (.ref b1), .val (.int wv), .val (.int ov), .val (.int fv), .val (.int tv0), .val (.ref gt), .val (.int x0), .val (.int x1), .val (.int x2), .val (.int x3), .val (.int mn), .unset, .unset, .unset, .unset, .unset] [(.int (own_max x2 x3)), (.int (own_max x0 x1))])) rfl (by rw [hml]; rfl) (argsL := [(.int (own_max x0 x1)), (.int (own_max x2 x3))]) (rest := []) (lenOf pd_1 rfl) rfl (by show 2 * 0 + _ ≤ _; exact Nat.le_of_eq rfl) (hb hby at_216) (fun _ _ => ⟨rfl, e30, (by decide : 3 + 0 ≤ _), (by decide : 17 + 0 ≤ _)⟩)
          dsimp only [Pt.U, Pt.locs, Pt.cells, Pt.slots] at X31 l31 y31 z31 st31 hQ31
          subst l31 y31 z31
          obtain ⟨rfl, Nq31, e31⟩ := hQ31
          have N31 := Fr.app N30 Nq31
          replace e31 : T31.heap = h22 := e31
          refine own_via st31 ?_
          show OwnEnds p.tables e below _ (T31.setTop (mkF m 219 #[.val (.int p0), .val (.int p1), .val (.int p2), .val (.ref b1), .val (.int wv), .val (.int ov), .val (.int fv), .val (.int tv0), .val (.ref gt), .val (.int x0), .val (.int x1), .val (.int x2), .val (.int x3), .val (.int mn), .unset, .unset, .unset, .unset, .unset] [(.int (own_max (own_max x0 x1) (own_max x2 x3)))]))
          obtain ⟨mx, h_mx⟩ : ∃ z, z = (own_max (own_max x0 x1) (own_max x2 x3)) := ⟨_, rfl⟩
          rw [← h_mx]
          refine own_via (fun t k => XS.istore X31.here hx rfl (hb hby at_219) rfl (l' := #[.val (.int p0), .val (.int p1), .val (.int p2), .val (.ref b1), .val (.int wv), .val (.int ov), .val (.int fv), .val (.int tv0), .val (.ref gt), .val (.int x0), .val (.int x1), .val (.int x2), .val (.int x3), .val (.int mn), .val (.int mx), .unset, .unset, .unset, .unset]) rfl k) ?_
          show OwnEnds p.tables e below _ (T31.setTop (mkF m 221 #[.val (.int p0), .val (.int p1), .val (.int p2), .val (.ref b1), .val (.int wv), .val (.int ov), .val (.int fv), .val (.int tv0), .val (.ref gt), .val (.int x0), .val (.int x1), .val (.int x2), .val (.int x3), .val (.int mn), .val (.int mx), .unset, .unset, .unset, .unset] []))
          have hmmq := own_mmeq hwd hw1 hw4 h_x0 h_x1 h_x2 h_x3 h_mn h_mx
          have hlt' := hlt
          rw [hmmq] at hlt'
          refine own_via (fun t k => XS.iload X31.here hx rfl (hb hby at_221) rfl k) ?_
          show OwnEnds p.tables e below _ (T31.setTop (mkF m 223 #[.val (.int p0), .val (.int p1), .val (.int p2), .val (.ref b1), .val (.int wv), .val (.int ov), .val (.int fv), .val (.int tv0), .val (.ref gt), .val (.int x0), .val (.int x1), .val (.int x2), .val (.int x3), .val (.int mn), .val (.int mx), .unset, .unset, .unset, .unset] [(.int mx)]))
          refine own_via (fun t k => XS.iload X31.here hx rfl (hb hby at_223) rfl k) ?_
          show OwnEnds p.tables e below _ (T31.setTop (mkF m 225 #[.val (.int p0), .val (.int p1), .val (.int p2), .val (.ref b1), .val (.int wv), .val (.int ov), .val (.int fv), .val (.int tv0), .val (.ref gt), .val (.int x0), .val (.int x1), .val (.int x2), .val (.int x3), .val (.int mn), .val (.int mx), .unset, .unset, .unset, .unset] [(.int mn), (.int mx)]))
          refine own_via (fun t k => XS.isub X31.here hx rfl (hb hby at_225) rfl k) ?_
          show OwnEnds p.tables e below _ (T31.setTop (mkF m 226 #[.val (.int p0), .val (.int p1), .val (.int p2), .val (.ref b1), .val (.int wv), .val (.int ov), .val (.int fv), .val (.int tv0), .val (.ref gt), .val (.int x0), .val (.int x1), .val (.int x2), .val (.int x3), .val (.int mn), .val (.int mx), .unset, .unset, .unset, .unset] [(.int (mx - mn))]))
          refine own_via (fun t k => XS.bipush X31.here hx rfl (hb hby at_226) k) ?_
          show OwnEnds p.tables e below _ (T31.setTop (mkF m 228 #[.val (.int p0), .val (.int p1), .val (.int p2), .val (.ref b1), .val (.int wv), .val (.int ov), .val (.int fv), .val (.int tv0), .val (.ref gt), .val (.int x0), .val (.int x1), .val (.int x2), .val (.int x3), .val (.int mn), .val (.int mx), .unset, .unset, .unset, .unset] [(.int (32 : Int32)), (.int (mx - mn))]))
          have hc228_32 : ¬ ((mx - mn) < (32 : Int32)) := hlt'
          refine own_via (fun t k => XS.icmpYes X31.here hx rfl (pc0 := 228) (pc' := 243) rfl (hb hby at_228) rfl (flt hc228_32).2.1 (by decide) (by decide) k) ?_
          show OwnEnds p.tables e below _ (T31.setTop (mkF m 243 #[.val (.int p0), .val (.int p1), .val (.int p2), .val (.ref b1), .val (.int wv), .val (.int ov), .val (.int fv), .val (.int tv0), .val (.ref gt), .val (.int x0), .val (.int x1), .val (.int x2), .val (.int x3), .val (.int mn), .val (.int mx), .unset, .unset, .unset, .unset] []))
          refine own_via (fun t k => XS.iload X31.here hx rfl (hb hby at_243) rfl k) ?_
          show OwnEnds p.tables e below _ (T31.setTop (mkF m 245 #[.val (.int p0), .val (.int p1), .val (.int p2), .val (.ref b1), .val (.int wv), .val (.int ov), .val (.int fv), .val (.int tv0), .val (.ref gt), .val (.int x0), .val (.int x1), .val (.int x2), .val (.int x3), .val (.int mn), .val (.int mx), .unset, .unset, .unset, .unset] [(.int mn)]))
          refine own_via (fun t k => XS.iload X31.here hx rfl (hb hby at_245) rfl k) ?_
          show OwnEnds p.tables e below _ (T31.setTop (mkF m 247 #[.val (.int p0), .val (.int p1), .val (.int p2), .val (.ref b1), .val (.int wv), .val (.int ov), .val (.int fv), .val (.int tv0), .val (.ref gt), .val (.int x0), .val (.int x1), .val (.int x2), .val (.int x3), .val (.int mn), .val (.int mx), .unset, .unset, .unset, .unset] [(.int mx), (.int mn)]))
          refine own_via (fun t k => XS.iadd X31.here hx rfl (hb hby at_247) rfl k) ?_
          show OwnEnds p.tables e below _ (T31.setTop (mkF m 248 #[.val (.int p0), .val (.int p1), .val (.int p2), .val (.ref b1), .val (.int wv), .val (.int ov), .val (.int fv), .val (.int tv0), .val (.ref gt), .val (.int x0), .val (.int x1), .val (.int x2), .val (.int x3), .val (.int mn), .val (.int mx), .unset, .unset, .unset, .unset] [(.int (mn + mx))]))
          refine own_via (fun t k => XS.iconst X31.here hx rfl (hb hby at_248) k) ?_
          show OwnEnds p.tables e below _ (T31.setTop (mkF m 249 #[.val (.int p0), .val (.int p1), .val (.int p2), .val (.ref b1), .val (.int wv), .val (.int ov), .val (.int fv), .val (.int tv0), .val (.ref gt), .val (.int x0), .val (.int x1), .val (.int x2), .val (.int x3), .val (.int mn), .val (.int mx), .unset, .unset, .unset, .unset] [(.int (1 : Int32)), (.int (mn + mx))]))
          refine own_via (fun t k => XS.iadd X31.here hx rfl (hb hby at_249) rfl k) ?_
          show OwnEnds p.tables e below _ (T31.setTop (mkF m 250 #[.val (.int p0), .val (.int p1), .val (.int p2), .val (.ref b1), .val (.int wv), .val (.int ov), .val (.int fv), .val (.int tv0), .val (.ref gt), .val (.int x0), .val (.int x1), .val (.int x2), .val (.int x3), .val (.int mn), .val (.int mx), .unset, .unset, .unset, .unset] [(.int ((mn + mx) + (1 : Int32)))]))
          refine own_via (fun t k => XS.iconst X31.here hx rfl (hb hby at_250) k) ?_
          show OwnEnds p.tables e below _ (T31.setTop (mkF m 251 #[.val (.int p0), .val (.int p1), .val (.int p2), .val (.ref b1), .val (.int wv), .val (.int ov), .val (.int fv), .val (.int tv0), .val (.ref gt), .val (.int x0), .val (.int x1), .val (.int x2), .val (.int x3), .val (.int mn), .val (.int mx), .unset, .unset, .unset, .unset] [(.int (2 : Int32)), (.int ((mn + mx) + (1 : Int32)))]))
          refine own_via (fun t k => XS.idiv X31.here hx rfl (hb hby at_251) rfl (by decide) k) ?_
          show OwnEnds p.tables e below _ (T31.setTop (mkF m 252 #[.val (.int p0), .val (.int p1), .val (.int p2), .val (.ref b1), .val (.int wv), .val (.int ov), .val (.int fv), .val (.int tv0), .val (.ref gt), .val (.int x0), .val (.int x1), .val (.int x2), .val (.int x3), .val (.int mn), .val (.int mx), .unset, .unset, .unset, .unset] [(.int (((mn + mx) + (1 : Int32)) / (2 : Int32)))]))
          obtain ⟨tw, h_tw⟩ : ∃ z, z = (((mn + mx) + (1 : Int32)) / (2 : Int32)) := ⟨_, rfl⟩
          rw [← h_tw]
          have htw2 : tw = own_T (own_mm (own_gs ys k wd) 255 0) := by rw [hmmq]; exact h_tw
          refine own_via (fun t k => XS.istore X31.here hx rfl (hb hby at_252) rfl (l' := #[.val (.int p0), .val (.int p1), .val (.int p2), .val (.ref b1), .val (.int wv), .val (.int ov), .val (.int fv), .val (.int tv0), .val (.ref gt), .val (.int x0), .val (.int x1), .val (.int x2), .val (.int x3), .val (.int mn), .val (.int mx), .val (.int tw), .unset, .unset, .unset]) rfl k) ?_
          show OwnEnds p.tables e below _ (T31.setTop (mkF m 254 #[.val (.int p0), .val (.int p1), .val (.int p2), .val (.ref b1), .val (.int wv), .val (.int ov), .val (.int fv), .val (.int tv0), .val (.ref gt), .val (.int x0), .val (.int x1), .val (.int x2), .val (.int x3), .val (.int mn), .val (.int mx), .val (.int tw), .unset, .unset, .unset] []))
          refine own_via (fun t k => XS.bipush X31.here hx rfl (hb hby at_254) k) ?_
          show OwnEnds p.tables e below _ (T31.setTop (mkF m 256 #[.val (.int p0), .val (.int p1), .val (.int p2), .val (.ref b1), .val (.int wv), .val (.int ov), .val (.int fv), .val (.int tv0), .val (.ref gt), .val (.int x0), .val (.int x1), .val (.int x2), .val (.int x3), .val (.int mn), .val (.int mx), .val (.int tw), .unset, .unset, .unset] [(.int (6 : Int32))]))
          obtain ⟨T33, h33, k33, X33, e33, E33, A33, st33⟩ := newP X31 hx hZ (hw _ (List.mem_of_getElem? (i := 14) rfl)) e31 (g := (mkF m 256 #[.val (.int p0), .val (.int p1), .val (.int p2), .val (.ref b1), .val (.int wv), .val (.int ov), .val (.int fv), .val (.int tv0), .val (.ref gt), .val (.int x0), .val (.int x1), .val (.int x2), .val (.int x3), .val (.int mn), .val (.int mx), .val (.int tw), .unset, .unset, .unset] [(.int (6 : Int32))])) rfl (hb hby at_256) rfl (by decide) (cap := 6) (by decide) (by decide) (by decide) (by decide)
          obtain ⟨b33, g33⟩ : ∃ z, z = h22.size := ⟨_, rfl⟩
          rw [← g33] at A33 st33
          have ne_b1_b33 : b1 ≠ b33 := Nat.ne_of_lt (Nat.lt_of_lt_of_le A_b1.lt (Nat.le_of_eq g33.symm))
          have ne_gt_b33 : gt ≠ b33 := Nat.ne_of_lt (Nat.lt_of_lt_of_le A_gt.lt (Nat.le_of_eq g33.symm))
          have ne_na_b33 : na ≠ b33 := Nat.ne_of_lt (Nat.lt_of_lt_of_le A_na.lt (Nat.le_of_eq g33.symm))
          have g_b33 : n0 ≤ b33 := Nat.le_trans Zs_22 (Nat.le_of_eq g33.symm)
          have Zs_33 : n0 ≤ _ := Nat.le_trans Zs_22 E33.1
          replace A_na := A_na.ext E33
          replace A_b1 := A_b1.ext E33
          replace A_gt := A_gt.ext E33
          replace O0 := O0.ext E33
          have A_b33 : AL Z h33 b33 .int [(.int (0 : Int32)), (.int (0 : Int32)), (.int (0 : Int32)), (.int (0 : Int32)), (.int (0 : Int32)), (.int (0 : Int32))] := AL.new A33 (by decide) (i := 6) rfl
          refine own_via st33 ?_
          show OwnEnds p.tables e below _ (T33.setTop (mkF m 258 #[.val (.int p0), .val (.int p1), .val (.int p2), .val (.ref b1), .val (.int wv), .val (.int ov), .val (.int fv), .val (.int tv0), .val (.ref gt), .val (.int x0), .val (.int x1), .val (.int x2), .val (.int x3), .val (.int mn), .val (.int mx), .val (.int tw), .unset, .unset, .unset] [(.ref b33)]))
          refine own_via (fun t k => XS.astore X33.here hx rfl (hb hby at_258) rfl rfl (l' := #[.val (.int p0), .val (.int p1), .val (.int p2), .val (.ref b1), .val (.int wv), .val (.int ov), .val (.int fv), .val (.int tv0), .val (.ref gt), .val (.int x0), .val (.int x1), .val (.int x2), .val (.int x3), .val (.int mn), .val (.int mx), .val (.int tw), .val (.ref b33), .unset, .unset]) rfl k) ?_
          show OwnEnds p.tables e below _ (T33.setTop (mkF m 260 #[.val (.int p0), .val (.int p1), .val (.int p2), .val (.ref b1), .val (.int wv), .val (.int ov), .val (.int fv), .val (.int tv0), .val (.ref gt), .val (.int x0), .val (.int x1), .val (.int x2), .val (.int x3), .val (.int mn), .val (.int mx), .val (.int tw), .val (.ref b33), .unset, .unset] []))
          refine own_via (fun t k => XS.iconst X33.here hx rfl (hb hby at_260) k) ?_
          show OwnEnds p.tables e below _ (T33.setTop (mkF m 261 #[.val (.int p0), .val (.int p1), .val (.int p2), .val (.ref b1), .val (.int wv), .val (.int ov), .val (.int fv), .val (.int tv0), .val (.ref gt), .val (.int x0), .val (.int x1), .val (.int x2), .val (.int x3), .val (.int mn), .val (.int mx), .val (.int tw), .val (.ref b33), .unset, .unset] [(.int (2 : Int32))]))
          obtain ⟨T34, h34, k34, X34, e34, E34, A34, st34⟩ := newP X33 hx hZ (hw _ (List.mem_of_getElem? (i := 14) rfl)) e33 (g := (mkF m 261 #[.val (.int p0), .val (.int p1), .val (.int p2), .val (.ref b1), .val (.int wv), .val (.int ov), .val (.int fv), .val (.int tv0), .val (.ref gt), .val (.int x0), .val (.int x1), .val (.int x2), .val (.int x3), .val (.int mn), .val (.int mx), .val (.int tw), .val (.ref b33), .unset, .unset] [(.int (2 : Int32))])) rfl (hb hby at_261) rfl (by decide) (cap := 2) (by decide) (by decide) (by decide) (by decide)
          obtain ⟨b34, g34⟩ : ∃ z, z = h33.size := ⟨_, rfl⟩
          rw [← g34] at A34 st34
          have ne_b1_b34 : b1 ≠ b34 := Nat.ne_of_lt (Nat.lt_of_lt_of_le A_b1.lt (Nat.le_of_eq g34.symm))
          have ne_b33_b34 : b33 ≠ b34 := Nat.ne_of_lt (Nat.lt_of_lt_of_le A_b33.lt (Nat.le_of_eq g34.symm))
          have ne_gt_b34 : gt ≠ b34 := Nat.ne_of_lt (Nat.lt_of_lt_of_le A_gt.lt (Nat.le_of_eq g34.symm))
          have ne_na_b34 : na ≠ b34 := Nat.ne_of_lt (Nat.lt_of_lt_of_le A_na.lt (Nat.le_of_eq g34.symm))
          have g_b34 : n0 ≤ b34 := Nat.le_trans Zs_33 (Nat.le_of_eq g34.symm)
          have Zs_34 : n0 ≤ _ := Nat.le_trans Zs_33 E34.1
          replace A_na := A_na.ext E34
          replace A_b1 := A_b1.ext E34
          replace A_gt := A_gt.ext E34
          replace A_b33 := A_b33.ext E34
          replace O0 := O0.ext E34
          have A_b34 : AL Z h34 b34 .int [(.int (0 : Int32)), (.int (0 : Int32))] := AL.new A34 (by decide) (i := 2) rfl
          refine own_via st34 ?_
          show OwnEnds p.tables e below _ (T34.setTop (mkF m 263 #[.val (.int p0), .val (.int p1), .val (.int p2), .val (.ref b1), .val (.int wv), .val (.int ov), .val (.int fv), .val (.int tv0), .val (.ref gt), .val (.int x0), .val (.int x1), .val (.int x2), .val (.int x3), .val (.int mn), .val (.int mx), .val (.int tw), .val (.ref b33), .unset, .unset] [(.ref b34)]))
          refine own_via (fun t k => XS.astore X34.here hx rfl (hb hby at_263) rfl rfl (l' := #[.val (.int p0), .val (.int p1), .val (.int p2), .val (.ref b1), .val (.int wv), .val (.int ov), .val (.int fv), .val (.int tv0), .val (.ref gt), .val (.int x0), .val (.int x1), .val (.int x2), .val (.int x3), .val (.int mn), .val (.int mx), .val (.int tw), .val (.ref b33), .val (.ref b34), .unset]) rfl k) ?_
          show OwnEnds p.tables e below _ (T34.setTop (mkF m 265 #[.val (.int p0), .val (.int p1), .val (.int p2), .val (.ref b1), .val (.int wv), .val (.int ov), .val (.int fv), .val (.int tv0), .val (.ref gt), .val (.int x0), .val (.int x1), .val (.int x2), .val (.int x3), .val (.int mn), .val (.int mx), .val (.int tw), .val (.ref b33), .val (.ref b34), .unset] []))
          obtain ⟨r0, hr0⟩ : ∃ z : List Int32 × Nat × Bool, z = (List.replicate 6 0, 0, false) := ⟨_, rfl⟩
          have hlr_r0 : r0.1.length = 6 := by rw [hr0]; rfl
          have hve_r0 : r0.2.1 ≤ 0 := by rw [hr0]; exact Nat.le_refl _
          replace A_b33 : AL Z h34 b33 .int (own_iv r0.1) := by rw [hr0]; exact A_b33
          replace A_b34 : AL Z h34 b34 .int [(.int (Int32.ofNat r0.2.1)), (.int (own_bit r0.2.2))] := by rw [hr0]; exact A_b34
          refine own_via (fun t k => XS.aload X34.here hx rfl (hb hby at_265) rfl rfl k) ?_
          show OwnEnds p.tables e below _ (T34.setTop (mkF m 267 #[.val (.int p0), .val (.int p1), .val (.int p2), .val (.ref b1), .val (.int wv), .val (.int ov), .val (.int fv), .val (.int tv0), .val (.ref gt), .val (.int x0), .val (.int x1), .val (.int x2), .val (.int x3), .val (.int mn), .val (.int mx), .val (.int tw), .val (.ref b33), .val (.ref b34), .unset] [(.ref b33)]))
          refine own_via (fun t k => XS.aload X34.here hx rfl (hb hby at_267) rfl rfl k) ?_
          show OwnEnds p.tables e below _ (T34.setTop (mkF m 269 #[.val (.int p0), .val (.int p1), .val (.int p2), .val (.ref b1), .val (.int wv), .val (.int ov), .val (.int fv), .val (.int tv0), .val (.ref gt), .val (.int x0), .val (.int x1), .val (.int x2), .val (.int x3), .val (.int mn), .val (.int mx), .val (.int tw), .val (.ref b33), .val (.ref b34), .unset] [(.ref b34), (.ref b33)]))
          refine own_via (fun t k => XS.iload X34.here hx rfl (hb hby at_269) rfl k) ?_
          show OwnEnds p.tables e below _ (T34.setTop (mkF m 271 #[.val (.int p0), .val (.int p1), .val (.int p2), .val (.ref b1), .val (.int wv), .val (.int ov), .val (.int fv), .val (.int tv0), .val (.ref gt), .val (.int x0), .val (.int x1), .val (.int x2), .val (.int x3), .val (.int mn), .val (.int mx), .val (.int tw), .val (.ref b33), .val (.ref b34), .unset] [(.int x0), (.ref b34), (.ref b33)]))
          refine own_via (fun t k => XS.iload X34.here hx rfl (hb hby at_271) rfl k) ?_
          show OwnEnds p.tables e below _ (T34.setTop (mkF m 273 #[.val (.int p0), .val (.int p1), .val (.int p2), .val (.ref b1), .val (.int wv), .val (.int ov), .val (.int fv), .val (.int tv0), .val (.ref gt), .val (.int x0), .val (.int x1), .val (.int x2), .val (.int x3), .val (.int mn), .val (.int mx), .val (.int tw), .val (.ref b33), .val (.ref b34), .unset] [(.int tw), (.int x0), (.ref b34), (.ref b33)]))
          have J281_35 : ∀ dk0 : Int32, dk0 = (if x0 < tw then (1 : Int32) else (0 : Int32)) → OwnEnds p.tables e below (OwnQ s 24 128 (Q0 Z p0 p1 p2 na h0 n0)) (T34.setTop (mkF m 281 #[.val (.int p0), .val (.int p1), .val (.int p2), .val (.ref b1), .val (.int wv), .val (.int ov), .val (.int fv), .val (.int tv0), .val (.ref gt), .val (.int x0), .val (.int x1), .val (.int x2), .val (.int x3), .val (.int mn), .val (.int mx), .val (.int tw), .val (.ref b33), .val (.ref b34), .unset] [(.int dk0), (.ref b34), (.ref b33)])) := by
            intro dk0 h_dk0
            refine own_via (fun t k => XS.iload X34.here hx rfl (hb hby at_281) rfl k) ?_
            show OwnEnds p.tables e below _ (T34.setTop (mkF m 283 #[.val (.int p0), .val (.int p1), .val (.int p2), .val (.ref b1), .val (.int wv), .val (.int ov), .val (.int fv), .val (.int tv0), .val (.ref gt), .val (.int x0), .val (.int x1), .val (.int x2), .val (.int x3), .val (.int mn), .val (.int mx), .val (.int tw), .val (.ref b33), .val (.ref b34), .unset] [(.int fv), (.int dk0), (.ref b34), (.ref b33)]))
            have J297_36 : ∀ in0 : Int32, in0 = (if (0 : Int32) < fv then (0 : Int32) else (if (0 : Int32) < tv0 then (1 : Int32) else (0 : Int32))) → OwnEnds p.tables e below (OwnQ s 24 128 (Q0 Z p0 p1 p2 na h0 n0)) (T34.setTop (mkF m 297 #[.val (.int p0), .val (.int p1), .val (.int p2), .val (.ref b1), .val (.int wv), .val (.int ov), .val (.int fv), .val (.int tv0), .val (.ref gt), .val (.int x0), .val (.int x1), .val (.int x2), .val (.int x3), .val (.int mn), .val (.int mx), .val (.int tw), .val (.ref b33), .val (.ref b34), .unset] [(.int in0), (.int dk0), (.ref b34), (.ref b33)])) := by
              intro in0 h_in0
              obtain ⟨d0, hd0⟩ : ∃ z, z = decide (x0 < tw) := ⟨_, rfl⟩
              obtain ⟨i0, hi0⟩ : ∃ z, z = decide (fN ≤ 0 ∧ 0 < tN) := ⟨_, rfl⟩
              rw [own_bitd h_dk0 hd0, own_biti (jN := 0) h_in0 hfN htN rfl hi0]
              show OwnEnds p.tables e below _ (T34.setTop (mkF m 297 #[.val (.int p0), .val (.int p1), .val (.int p2), .val (.ref b1), .val (.int wv), .val (.int ov), .val (.int fv), .val (.int tv0), .val (.ref gt), .val (.int x0), .val (.int x1), .val (.int x2), .val (.int x3), .val (.int mn), .val (.int mx), .val (.int tw), .val (.ref b33), .val (.ref b34), .unset] [(.int (own_bit i0)), (.int (own_bit d0)), (.ref b34), (.ref b33)]))
              obtain ⟨_, _, ⟨T37, L37, k37, n37⟩, -, X37, ⟨Lc37, hQ37, l37, y37, z37⟩, st37⟩ := Jvm.LawKit.callS X34 hx (y := (⟨"com/example/shelfmark/shelfmark/ScanlineElementsPinLaw", "push", "([I[IZZ)V"⟩ : MethodName)) hown (mvT hZ (hw _ (List.mem_of_getElem? (i := 28) rfl))) (mvT hZ (hw _ (List.mem_of_getElem? (i := 29) rfl))) (mvT hZ (hw _ (List.mem_of_getElem? (i := 30) rfl))) (mvT hZ (hw _ (List.mem_of_getElem? (i := 31) rfl))) (by decide) (backOf (W := 0) (rm5 l Z aw hw [] b33 b34 r0.1 r0.2.1 r0.2.2 d0 i0 h34 n0 Zs_34 A_b33 A_b34 hlr_r0 (by omega) ne_b33_b34 g_b33 g_b34) hZ (hw _ (List.mem_of_getElem? (i := 31) rfl)) (hw _ (List.mem_of_getElem? (i := 30) rfl)) (by decide) (by decide)) (g := (mkF m 297 #[.val (.int p0), .val (.int p1), .val (.int p2), .val (.ref b1), .val (.int wv), .val (.int ov), .val (.int fv), .val (.int tv0), .val (.ref gt), .val (.int x0), .val (.int x1), .val (.int x2), .val (.int x3), .val (.int mn), .val (.int mx), .val (.int tw), .val (.ref b33), .val (.ref b34), .unset] [(.int (own_bit i0)), (.int (own_bit d0)), (.ref b34), (.ref b33)])) rfl (by rw [hml]; rfl) (argsL := [(.ref b33), (.ref b34), (.int (own_bit d0)), (.int (own_bit i0))]) (rest := []) (lenOf pd_2 rfl) rfl (by show 2 * 0 + _ ≤ _; exact Nat.le_of_eq rfl) (hb hby at_297) (fun _ _ => ⟨rfl, e34, (by decide : 5 + 0 ≤ _), (by decide : 25 + 0 ≤ _)⟩)
              dsimp only [Pt.U, Pt.locs, Pt.cells, Pt.slots] at X37 l37 y37 z37 st37 hQ37
              subst l37 y37 z37
              obtain ⟨h37, e37⟩ : ∃ z, T37.heap = z := ⟨_, rfl⟩
              rw [e37] at hQ37
              obtain ⟨rfl, Nq37, K37, Y37_0, Y37_1⟩ := hQ37
              have N37 := Fr.app N31 Nq37
              replace A_na := A_na.keep K37 (ninS ne_na_b33 (ninS ne_na_b34 nin0))
              replace A_b1 := A_b1.keep K37 (ninS ne_b1_b33 (ninS ne_b1_b34 nin0))
              replace A_gt := A_gt.keep K37 (ninS ne_gt_b33 (ninS ne_gt_b34 nin0))
              have A_b33 : AL Z h37 b33 .int (own_iv (own_push r0 d0 i0).1) := Y37_0
              have A_b34 : AL Z h37 b34 .int [(.int (Int32.ofNat (own_push r0 d0 i0).2.1)), (.int (own_bit (own_push r0 d0 i0).2.2))] := Y37_1
              replace O0 := O0.keep K37 (allS g_b33 (allS g_b34 all0))
              have Zs_37 : n0 ≤ _ := Nat.le_trans Zs_34 K37.1
              refine own_via st37 ?_
              show OwnEnds p.tables e below _ (T37.setTop (mkF m 300 #[.val (.int p0), .val (.int p1), .val (.int p2), .val (.ref b1), .val (.int wv), .val (.int ov), .val (.int fv), .val (.int tv0), .val (.ref gt), .val (.int x0), .val (.int x1), .val (.int x2), .val (.int x3), .val (.int mn), .val (.int mx), .val (.int tw), .val (.ref b33), .val (.ref b34), .unset] []))
              obtain ⟨r1, hr1⟩ : ∃ z, z = own_push r0 d0 i0 := ⟨_, rfl⟩
              have hlr_r1 : r1.1.length = 6 := by rw [hr1, own_push_len]; exact hlr_r0
              have hve_r1 : r1.2.1 ≤ 1 := by
                rw [hr1]; have := own_push_ev r0 d0 i0; omega
              replace A_b33 : AL Z h37 b33 .int (own_iv r1.1) := by rw [hr1]; exact A_b33
              replace A_b34 : AL Z h37 b34 .int [(.int (Int32.ofNat r1.2.1)), (.int (own_bit r1.2.2))] := by rw [hr1]; exact A_b34
              refine own_via (fun t k => XS.aload X37.here hx rfl (hb hby at_300) rfl rfl k) ?_
              show OwnEnds p.tables e below _ (T37.setTop (mkF m 302 #[.val (.int p0), .val (.int p1), .val (.int p2), .val (.ref b1), .val (.int wv), .val (.int ov), .val (.int fv), .val (.int tv0), .val (.ref gt), .val (.int x0), .val (.int x1), .val (.int x2), .val (.int x3), .val (.int mn), .val (.int mx), .val (.int tw), .val (.ref b33), .val (.ref b34), .unset] [(.ref b33)]))
              refine own_via (fun t k => XS.aload X37.here hx rfl (hb hby at_302) rfl rfl k) ?_
              show OwnEnds p.tables e below _ (T37.setTop (mkF m 304 #[.val (.int p0), .val (.int p1), .val (.int p2), .val (.ref b1), .val (.int wv), .val (.int ov), .val (.int fv), .val (.int tv0), .val (.ref gt), .val (.int x0), .val (.int x1), .val (.int x2), .val (.int x3), .val (.int mn), .val (.int mx), .val (.int tw), .val (.ref b33), .val (.ref b34), .unset] [(.ref b34), (.ref b33)]))
              refine own_via (fun t k => XS.iload X37.here hx rfl (hb hby at_304) rfl k) ?_
              show OwnEnds p.tables e below _ (T37.setTop (mkF m 306 #[.val (.int p0), .val (.int p1), .val (.int p2), .val (.ref b1), .val (.int wv), .val (.int ov), .val (.int fv), .val (.int tv0), .val (.ref gt), .val (.int x0), .val (.int x1), .val (.int x2), .val (.int x3), .val (.int mn), .val (.int mx), .val (.int tw), .val (.ref b33), .val (.ref b34), .unset] [(.int x1), (.ref b34), (.ref b33)]))
              refine own_via (fun t k => XS.iload X37.here hx rfl (hb hby at_306) rfl k) ?_
              show OwnEnds p.tables e below _ (T37.setTop (mkF m 308 #[.val (.int p0), .val (.int p1), .val (.int p2), .val (.ref b1), .val (.int wv), .val (.int ov), .val (.int fv), .val (.int tv0), .val (.ref gt), .val (.int x0), .val (.int x1), .val (.int x2), .val (.int x3), .val (.int mn), .val (.int mx), .val (.int tw), .val (.ref b33), .val (.ref b34), .unset] [(.int tw), (.int x1), (.ref b34), (.ref b33)]))
              have J316_38 : ∀ dk1 : Int32, dk1 = (if x1 < tw then (1 : Int32) else (0 : Int32)) → OwnEnds p.tables e below (OwnQ s 24 128 (Q0 Z p0 p1 p2 na h0 n0)) (T37.setTop (mkF m 316 #[.val (.int p0), .val (.int p1), .val (.int p2), .val (.ref b1), .val (.int wv), .val (.int ov), .val (.int fv), .val (.int tv0), .val (.ref gt), .val (.int x0), .val (.int x1), .val (.int x2), .val (.int x3), .val (.int mn), .val (.int mx), .val (.int tw), .val (.ref b33), .val (.ref b34), .unset] [(.int dk1), (.ref b34), (.ref b33)])) := by
                intro dk1 h_dk1
                refine own_via (fun t k => XS.iload X37.here hx rfl (hb hby at_316) rfl k) ?_
                show OwnEnds p.tables e below _ (T37.setTop (mkF m 318 #[.val (.int p0), .val (.int p1), .val (.int p2), .val (.ref b1), .val (.int wv), .val (.int ov), .val (.int fv), .val (.int tv0), .val (.ref gt), .val (.int x0), .val (.int x1), .val (.int x2), .val (.int x3), .val (.int mn), .val (.int mx), .val (.int tw), .val (.ref b33), .val (.ref b34), .unset] [(.int fv), (.int dk1), (.ref b34), (.ref b33)]))
                refine own_via (fun t k => XS.iconst X37.here hx rfl (hb hby at_318) k) ?_
                show OwnEnds p.tables e below _ (T37.setTop (mkF m 319 #[.val (.int p0), .val (.int p1), .val (.int p2), .val (.ref b1), .val (.int wv), .val (.int ov), .val (.int fv), .val (.int tv0), .val (.ref gt), .val (.int x0), .val (.int x1), .val (.int x2), .val (.int x3), .val (.int mn), .val (.int mx), .val (.int tw), .val (.ref b33), .val (.ref b34), .unset] [(.int (1 : Int32)), (.int fv), (.int dk1), (.ref b34), (.ref b33)]))
                have J333_39 : ∀ in1 : Int32, in1 = (if (1 : Int32) < fv then (0 : Int32) else (if (1 : Int32) < tv0 then (1 : Int32) else (0 : Int32))) → OwnEnds p.tables e below (OwnQ s 24 128 (Q0 Z p0 p1 p2 na h0 n0)) (T37.setTop (mkF m 333 #[.val (.int p0), .val (.int p1), .val (.int p2), .val (.ref b1), .val (.int wv), .val (.int ov), .val (.int fv), .val (.int tv0), .val (.ref gt), .val (.int x0), .val (.int x1), .val (.int x2), .val (.int x3), .val (.int mn), .val (.int mx), .val (.int tw), .val (.ref b33), .val (.ref b34), .unset] [(.int in1), (.int dk1), (.ref b34), (.ref b33)])) := by
                  intro in1 h_in1
                  obtain ⟨d1, hd1⟩ : ∃ z, z = decide (x1 < tw) := ⟨_, rfl⟩
                  obtain ⟨i1, hi1⟩ : ∃ z, z = decide (fN ≤ 1 ∧ 1 < tN) := ⟨_, rfl⟩
                  rw [own_bitd h_dk1 hd1, own_biti (jN := 1) h_in1 hfN htN rfl hi1]
                  show OwnEnds p.tables e below _ (T37.setTop (mkF m 333 #[.val (.int p0), .val (.int p1), .val (.int p2), .val (.ref b1), .val (.int wv), .val (.int ov), .val (.int fv), .val (.int tv0), .val (.ref gt), .val (.int x0), .val (.int x1), .val (.int x2), .val (.int x3), .val (.int mn), .val (.int mx), .val (.int tw), .val (.ref b33), .val (.ref b34), .unset] [(.int (own_bit i1)), (.int (own_bit d1)), (.ref b34), (.ref b33)]))
                  obtain ⟨_, _, ⟨T40, L40, k40, n40⟩, -, X40, ⟨Lc40, hQ40, l40, y40, z40⟩, st40⟩ := Jvm.LawKit.callS X37 hx (y := (⟨"com/example/shelfmark/shelfmark/ScanlineElementsPinLaw", "push", "([I[IZZ)V"⟩ : MethodName)) hown (mvT hZ (hw _ (List.mem_of_getElem? (i := 28) rfl))) (mvT hZ (hw _ (List.mem_of_getElem? (i := 29) rfl))) (mvT hZ (hw _ (List.mem_of_getElem? (i := 30) rfl))) (mvT hZ (hw _ (List.mem_of_getElem? (i := 31) rfl))) (by decide) (backOf (W := 0) (rm5 l Z aw hw [] b33 b34 r1.1 r1.2.1 r1.2.2 d1 i1 h37 n0 Zs_37 A_b33 A_b34 hlr_r1 (by omega) ne_b33_b34 g_b33 g_b34) hZ (hw _ (List.mem_of_getElem? (i := 31) rfl)) (hw _ (List.mem_of_getElem? (i := 30) rfl)) (by decide) (by decide)) (g := (mkF m 333 #[.val (.int p0), .val (.int p1), .val (.int p2), .val (.ref b1), .val (.int wv), .val (.int ov), .val (.int fv), .val (.int tv0), .val (.ref gt), .val (.int x0), .val (.int x1), .val (.int x2), .val (.int x3), .val (.int mn), .val (.int mx), .val (.int tw), .val (.ref b33), .val (.ref b34), .unset] [(.int (own_bit i1)), (.int (own_bit d1)), (.ref b34), (.ref b33)])) rfl (by rw [hml]; rfl) (argsL := [(.ref b33), (.ref b34), (.int (own_bit d1)), (.int (own_bit i1))]) (rest := []) (lenOf pd_2 rfl) rfl (by show 2 * 0 + _ ≤ _; exact Nat.le_of_eq rfl) (hb hby at_333) (fun _ _ => ⟨rfl, e37, (by decide : 5 + 0 ≤ _), (by decide : 25 + 0 ≤ _)⟩)
                  dsimp only [Pt.U, Pt.locs, Pt.cells, Pt.slots] at X40 l40 y40 z40 st40 hQ40
                  subst l40 y40 z40
                  obtain ⟨h40, e40⟩ : ∃ z, T40.heap = z := ⟨_, rfl⟩
                  rw [e40] at hQ40
                  obtain ⟨rfl, Nq40, K40, Y40_0, Y40_1⟩ := hQ40
                  have N40 := Fr.app N37 Nq40
                  replace A_na := A_na.keep K40 (ninS ne_na_b33 (ninS ne_na_b34 nin0))
                  replace A_b1 := A_b1.keep K40 (ninS ne_b1_b33 (ninS ne_b1_b34 nin0))
                  replace A_gt := A_gt.keep K40 (ninS ne_gt_b33 (ninS ne_gt_b34 nin0))
                  have A_b33 : AL Z h40 b33 .int (own_iv (own_push r1 d1 i1).1) := Y40_0
                  have A_b34 : AL Z h40 b34 .int [(.int (Int32.ofNat (own_push r1 d1 i1).2.1)), (.int (own_bit (own_push r1 d1 i1).2.2))] := Y40_1
                  replace O0 := O0.keep K40 (allS g_b33 (allS g_b34 all0))
                  have Zs_40 : n0 ≤ _ := Nat.le_trans Zs_37 K40.1
                  refine own_via st40 ?_
                  show OwnEnds p.tables e below _ (T40.setTop (mkF m 336 #[.val (.int p0), .val (.int p1), .val (.int p2), .val (.ref b1), .val (.int wv), .val (.int ov), .val (.int fv), .val (.int tv0), .val (.ref gt), .val (.int x0), .val (.int x1), .val (.int x2), .val (.int x3), .val (.int mn), .val (.int mx), .val (.int tw), .val (.ref b33), .val (.ref b34), .unset] []))
                  obtain ⟨r2, hr2⟩ : ∃ z, z = own_push r1 d1 i1 := ⟨_, rfl⟩
                  have hlr_r2 : r2.1.length = 6 := by rw [hr2, own_push_len]; exact hlr_r1
                  have hve_r2 : r2.2.1 ≤ 2 := by
                    rw [hr2]; have := own_push_ev r1 d1 i1; omega
                  replace A_b33 : AL Z h40 b33 .int (own_iv r2.1) := by rw [hr2]; exact A_b33
                  replace A_b34 : AL Z h40 b34 .int [(.int (Int32.ofNat r2.2.1)), (.int (own_bit r2.2.2))] := by rw [hr2]; exact A_b34
                  refine own_via (fun t k => XS.aload X40.here hx rfl (hb hby at_336) rfl rfl k) ?_
                  show OwnEnds p.tables e below _ (T40.setTop (mkF m 338 #[.val (.int p0), .val (.int p1), .val (.int p2), .val (.ref b1), .val (.int wv), .val (.int ov), .val (.int fv), .val (.int tv0), .val (.ref gt), .val (.int x0), .val (.int x1), .val (.int x2), .val (.int x3), .val (.int mn), .val (.int mx), .val (.int tw), .val (.ref b33), .val (.ref b34), .unset] [(.ref b33)]))
                  refine own_via (fun t k => XS.aload X40.here hx rfl (hb hby at_338) rfl rfl k) ?_
                  show OwnEnds p.tables e below _ (T40.setTop (mkF m 340 #[.val (.int p0), .val (.int p1), .val (.int p2), .val (.ref b1), .val (.int wv), .val (.int ov), .val (.int fv), .val (.int tv0), .val (.ref gt), .val (.int x0), .val (.int x1), .val (.int x2), .val (.int x3), .val (.int mn), .val (.int mx), .val (.int tw), .val (.ref b33), .val (.ref b34), .unset] [(.ref b34), (.ref b33)]))
                  refine own_via (fun t k => XS.iload X40.here hx rfl (hb hby at_340) rfl k) ?_
                  show OwnEnds p.tables e below _ (T40.setTop (mkF m 342 #[.val (.int p0), .val (.int p1), .val (.int p2), .val (.ref b1), .val (.int wv), .val (.int ov), .val (.int fv), .val (.int tv0), .val (.ref gt), .val (.int x0), .val (.int x1), .val (.int x2), .val (.int x3), .val (.int mn), .val (.int mx), .val (.int tw), .val (.ref b33), .val (.ref b34), .unset] [(.int x2), (.ref b34), (.ref b33)]))
                  refine own_via (fun t k => XS.iload X40.here hx rfl (hb hby at_342) rfl k) ?_
                  show OwnEnds p.tables e below _ (T40.setTop (mkF m 344 #[.val (.int p0), .val (.int p1), .val (.int p2), .val (.ref b1), .val (.int wv), .val (.int ov), .val (.int fv), .val (.int tv0), .val (.ref gt), .val (.int x0), .val (.int x1), .val (.int x2), .val (.int x3), .val (.int mn), .val (.int mx), .val (.int tw), .val (.ref b33), .val (.ref b34), .unset] [(.int tw), (.int x2), (.ref b34), (.ref b33)]))
                  have J352_41 : ∀ dk2 : Int32, dk2 = (if x2 < tw then (1 : Int32) else (0 : Int32)) → OwnEnds p.tables e below (OwnQ s 24 128 (Q0 Z p0 p1 p2 na h0 n0)) (T40.setTop (mkF m 352 #[.val (.int p0), .val (.int p1), .val (.int p2), .val (.ref b1), .val (.int wv), .val (.int ov), .val (.int fv), .val (.int tv0), .val (.ref gt), .val (.int x0), .val (.int x1), .val (.int x2), .val (.int x3), .val (.int mn), .val (.int mx), .val (.int tw), .val (.ref b33), .val (.ref b34), .unset] [(.int dk2), (.ref b34), (.ref b33)])) := by
                    intro dk2 h_dk2
                    refine own_via (fun t k => XS.iload X40.here hx rfl (hb hby at_352) rfl k) ?_
                    show OwnEnds p.tables e below _ (T40.setTop (mkF m 354 #[.val (.int p0), .val (.int p1), .val (.int p2), .val (.ref b1), .val (.int wv), .val (.int ov), .val (.int fv), .val (.int tv0), .val (.ref gt), .val (.int x0), .val (.int x1), .val (.int x2), .val (.int x3), .val (.int mn), .val (.int mx), .val (.int tw), .val (.ref b33), .val (.ref b34), .unset] [(.int fv), (.int dk2), (.ref b34), (.ref b33)]))
                    refine own_via (fun t k => XS.iconst X40.here hx rfl (hb hby at_354) k) ?_
                    show OwnEnds p.tables e below _ (T40.setTop (mkF m 355 #[.val (.int p0), .val (.int p1), .val (.int p2), .val (.ref b1), .val (.int wv), .val (.int ov), .val (.int fv), .val (.int tv0), .val (.ref gt), .val (.int x0), .val (.int x1), .val (.int x2), .val (.int x3), .val (.int mn), .val (.int mx), .val (.int tw), .val (.ref b33), .val (.ref b34), .unset] [(.int (2 : Int32)), (.int fv), (.int dk2), (.ref b34), (.ref b33)]))
                    have J369_42 : ∀ in2 : Int32, in2 = (if (2 : Int32) < fv then (0 : Int32) else (if (2 : Int32) < tv0 then (1 : Int32) else (0 : Int32))) → OwnEnds p.tables e below (OwnQ s 24 128 (Q0 Z p0 p1 p2 na h0 n0)) (T40.setTop (mkF m 369 #[.val (.int p0), .val (.int p1), .val (.int p2), .val (.ref b1), .val (.int wv), .val (.int ov), .val (.int fv), .val (.int tv0), .val (.ref gt), .val (.int x0), .val (.int x1), .val (.int x2), .val (.int x3), .val (.int mn), .val (.int mx), .val (.int tw), .val (.ref b33), .val (.ref b34), .unset] [(.int in2), (.int dk2), (.ref b34), (.ref b33)])) := by
                      intro in2 h_in2
                      obtain ⟨d2, hd2⟩ : ∃ z, z = decide (x2 < tw) := ⟨_, rfl⟩
                      obtain ⟨i2, hi2⟩ : ∃ z, z = decide (fN ≤ 2 ∧ 2 < tN) := ⟨_, rfl⟩
                      rw [own_bitd h_dk2 hd2, own_biti (jN := 2) h_in2 hfN htN rfl hi2]
                      show OwnEnds p.tables e below _ (T40.setTop (mkF m 369 #[.val (.int p0), .val (.int p1), .val (.int p2), .val (.ref b1), .val (.int wv), .val (.int ov), .val (.int fv), .val (.int tv0), .val (.ref gt), .val (.int x0), .val (.int x1), .val (.int x2), .val (.int x3), .val (.int mn), .val (.int mx), .val (.int tw), .val (.ref b33), .val (.ref b34), .unset] [(.int (own_bit i2)), (.int (own_bit d2)), (.ref b34), (.ref b33)]))
                      obtain ⟨_, _, ⟨T43, L43, k43, n43⟩, -, X43, ⟨Lc43, hQ43, l43, y43, z43⟩, st43⟩ := Jvm.LawKit.callS X40 hx (y := (⟨"com/example/shelfmark/shelfmark/ScanlineElementsPinLaw", "push", "([I[IZZ)V"⟩ : MethodName)) hown (mvT hZ (hw _ (List.mem_of_getElem? (i := 28) rfl))) (mvT hZ (hw _ (List.mem_of_getElem? (i := 29) rfl))) (mvT hZ (hw _ (List.mem_of_getElem? (i := 30) rfl))) (mvT hZ (hw _ (List.mem_of_getElem? (i := 31) rfl))) (by decide) (backOf (W := 0) (rm5 l Z aw hw [] b33 b34 r2.1 r2.2.1 r2.2.2 d2 i2 h40 n0 Zs_40 A_b33 A_b34 hlr_r2 (by omega) ne_b33_b34 g_b33 g_b34) hZ (hw _ (List.mem_of_getElem? (i := 31) rfl)) (hw _ (List.mem_of_getElem? (i := 30) rfl)) (by decide) (by decide)) (g := (mkF m 369 #[.val (.int p0), .val (.int p1), .val (.int p2), .val (.ref b1), .val (.int wv), .val (.int ov), .val (.int fv), .val (.int tv0), .val (.ref gt), .val (.int x0), .val (.int x1), .val (.int x2), .val (.int x3), .val (.int mn), .val (.int mx), .val (.int tw), .val (.ref b33), .val (.ref b34), .unset] [(.int (own_bit i2)), (.int (own_bit d2)), (.ref b34), (.ref b33)])) rfl (by rw [hml]; rfl) (argsL := [(.ref b33), (.ref b34), (.int (own_bit d2)), (.int (own_bit i2))]) (rest := []) (lenOf pd_2 rfl) rfl (by show 2 * 0 + _ ≤ _; exact Nat.le_of_eq rfl) (hb hby at_369) (fun _ _ => ⟨rfl, e40, (by decide : 5 + 0 ≤ _), (by decide : 25 + 0 ≤ _)⟩)
                      dsimp only [Pt.U, Pt.locs, Pt.cells, Pt.slots] at X43 l43 y43 z43 st43 hQ43
                      subst l43 y43 z43
                      obtain ⟨h43, e43⟩ : ∃ z, T43.heap = z := ⟨_, rfl⟩
                      rw [e43] at hQ43
                      obtain ⟨rfl, Nq43, K43, Y43_0, Y43_1⟩ := hQ43
                      have N43 := Fr.app N40 Nq43
                      replace A_na := A_na.keep K43 (ninS ne_na_b33 (ninS ne_na_b34 nin0))
                      replace A_b1 := A_b1.keep K43 (ninS ne_b1_b33 (ninS ne_b1_b34 nin0))
                      replace A_gt := A_gt.keep K43 (ninS ne_gt_b33 (ninS ne_gt_b34 nin0))
                      have A_b33 : AL Z h43 b33 .int (own_iv (own_push r2 d2 i2).1) := Y43_0
                      have A_b34 : AL Z h43 b34 .int [(.int (Int32.ofNat (own_push r2 d2 i2).2.1)), (.int (own_bit (own_push r2 d2 i2).2.2))] := Y43_1
                      replace O0 := O0.keep K43 (allS g_b33 (allS g_b34 all0))
                      have Zs_43 : n0 ≤ _ := Nat.le_trans Zs_40 K43.1
                      refine own_via st43 ?_
                      show OwnEnds p.tables e below _ (T43.setTop (mkF m 372 #[.val (.int p0), .val (.int p1), .val (.int p2), .val (.ref b1), .val (.int wv), .val (.int ov), .val (.int fv), .val (.int tv0), .val (.ref gt), .val (.int x0), .val (.int x1), .val (.int x2), .val (.int x3), .val (.int mn), .val (.int mx), .val (.int tw), .val (.ref b33), .val (.ref b34), .unset] []))
                      obtain ⟨r3, hr3⟩ : ∃ z, z = own_push r2 d2 i2 := ⟨_, rfl⟩
                      have hlr_r3 : r3.1.length = 6 := by rw [hr3, own_push_len]; exact hlr_r2
                      have hve_r3 : r3.2.1 ≤ 3 := by
                        rw [hr3]; have := own_push_ev r2 d2 i2; omega
                      replace A_b33 : AL Z h43 b33 .int (own_iv r3.1) := by rw [hr3]; exact A_b33
                      replace A_b34 : AL Z h43 b34 .int [(.int (Int32.ofNat r3.2.1)), (.int (own_bit r3.2.2))] := by rw [hr3]; exact A_b34
                      refine own_via (fun t k => XS.aload X43.here hx rfl (hb hby at_372) rfl rfl k) ?_
                      show OwnEnds p.tables e below _ (T43.setTop (mkF m 374 #[.val (.int p0), .val (.int p1), .val (.int p2), .val (.ref b1), .val (.int wv), .val (.int ov), .val (.int fv), .val (.int tv0), .val (.ref gt), .val (.int x0), .val (.int x1), .val (.int x2), .val (.int x3), .val (.int mn), .val (.int mx), .val (.int tw), .val (.ref b33), .val (.ref b34), .unset] [(.ref b33)]))
                      refine own_via (fun t k => XS.aload X43.here hx rfl (hb hby at_374) rfl rfl k) ?_
                      show OwnEnds p.tables e below _ (T43.setTop (mkF m 376 #[.val (.int p0), .val (.int p1), .val (.int p2), .val (.ref b1), .val (.int wv), .val (.int ov), .val (.int fv), .val (.int tv0), .val (.ref gt), .val (.int x0), .val (.int x1), .val (.int x2), .val (.int x3), .val (.int mn), .val (.int mx), .val (.int tw), .val (.ref b33), .val (.ref b34), .unset] [(.ref b34), (.ref b33)]))
                      refine own_via (fun t k => XS.iload X43.here hx rfl (hb hby at_376) rfl k) ?_
                      show OwnEnds p.tables e below _ (T43.setTop (mkF m 378 #[.val (.int p0), .val (.int p1), .val (.int p2), .val (.ref b1), .val (.int wv), .val (.int ov), .val (.int fv), .val (.int tv0), .val (.ref gt), .val (.int x0), .val (.int x1), .val (.int x2), .val (.int x3), .val (.int mn), .val (.int mx), .val (.int tw), .val (.ref b33), .val (.ref b34), .unset] [(.int x3), (.ref b34), (.ref b33)]))
                      refine own_via (fun t k => XS.iload X43.here hx rfl (hb hby at_378) rfl k) ?_
                      show OwnEnds p.tables e below _ (T43.setTop (mkF m 380 #[.val (.int p0), .val (.int p1), .val (.int p2), .val (.ref b1), .val (.int wv), .val (.int ov), .val (.int fv), .val (.int tv0), .val (.ref gt), .val (.int x0), .val (.int x1), .val (.int x2), .val (.int x3), .val (.int mn), .val (.int mx), .val (.int tw), .val (.ref b33), .val (.ref b34), .unset] [(.int tw), (.int x3), (.ref b34), (.ref b33)]))
                      have J388_44 : ∀ dk3 : Int32, dk3 = (if x3 < tw then (1 : Int32) else (0 : Int32)) → OwnEnds p.tables e below (OwnQ s 24 128 (Q0 Z p0 p1 p2 na h0 n0)) (T43.setTop (mkF m 388 #[.val (.int p0), .val (.int p1), .val (.int p2), .val (.ref b1), .val (.int wv), .val (.int ov), .val (.int fv), .val (.int tv0), .val (.ref gt), .val (.int x0), .val (.int x1), .val (.int x2), .val (.int x3), .val (.int mn), .val (.int mx), .val (.int tw), .val (.ref b33), .val (.ref b34), .unset] [(.int dk3), (.ref b34), (.ref b33)])) := by
                        intro dk3 h_dk3
                        refine own_via (fun t k => XS.iload X43.here hx rfl (hb hby at_388) rfl k) ?_
                        show OwnEnds p.tables e below _ (T43.setTop (mkF m 390 #[.val (.int p0), .val (.int p1), .val (.int p2), .val (.ref b1), .val (.int wv), .val (.int ov), .val (.int fv), .val (.int tv0), .val (.ref gt), .val (.int x0), .val (.int x1), .val (.int x2), .val (.int x3), .val (.int mn), .val (.int mx), .val (.int tw), .val (.ref b33), .val (.ref b34), .unset] [(.int fv), (.int dk3), (.ref b34), (.ref b33)]))
                        refine own_via (fun t k => XS.iconst X43.here hx rfl (hb hby at_390) k) ?_
                        show OwnEnds p.tables e below _ (T43.setTop (mkF m 391 #[.val (.int p0), .val (.int p1), .val (.int p2), .val (.ref b1), .val (.int wv), .val (.int ov), .val (.int fv), .val (.int tv0), .val (.ref gt), .val (.int x0), .val (.int x1), .val (.int x2), .val (.int x3), .val (.int mn), .val (.int mx), .val (.int tw), .val (.ref b33), .val (.ref b34), .unset] [(.int (3 : Int32)), (.int fv), (.int dk3), (.ref b34), (.ref b33)]))
                        have J405_45 : ∀ in3 : Int32, in3 = (if (3 : Int32) < fv then (0 : Int32) else (if (3 : Int32) < tv0 then (1 : Int32) else (0 : Int32))) → OwnEnds p.tables e below (OwnQ s 24 128 (Q0 Z p0 p1 p2 na h0 n0)) (T43.setTop (mkF m 405 #[.val (.int p0), .val (.int p1), .val (.int p2), .val (.ref b1), .val (.int wv), .val (.int ov), .val (.int fv), .val (.int tv0), .val (.ref gt), .val (.int x0), .val (.int x1), .val (.int x2), .val (.int x3), .val (.int mn), .val (.int mx), .val (.int tw), .val (.ref b33), .val (.ref b34), .unset] [(.int in3), (.int dk3), (.ref b34), (.ref b33)])) := by
                          intro in3 h_in3
                          obtain ⟨d3, hd3⟩ : ∃ z, z = decide (x3 < tw) := ⟨_, rfl⟩
                          obtain ⟨i3, hi3⟩ : ∃ z, z = decide (fN ≤ 3 ∧ 3 < tN) := ⟨_, rfl⟩
                          rw [own_bitd h_dk3 hd3, own_biti (jN := 3) h_in3 hfN htN rfl hi3]
                          show OwnEnds p.tables e below _ (T43.setTop (mkF m 405 #[.val (.int p0), .val (.int p1), .val (.int p2), .val (.ref b1), .val (.int wv), .val (.int ov), .val (.int fv), .val (.int tv0), .val (.ref gt), .val (.int x0), .val (.int x1), .val (.int x2), .val (.int x3), .val (.int mn), .val (.int mx), .val (.int tw), .val (.ref b33), .val (.ref b34), .unset] [(.int (own_bit i3)), (.int (own_bit d3)), (.ref b34), (.ref b33)]))
                          obtain ⟨_, _, ⟨T46, L46, k46, n46⟩, -, X46, ⟨Lc46, hQ46, l46, y46, z46⟩, st46⟩ := Jvm.LawKit.callS X43 hx (y := (⟨"com/example/shelfmark/shelfmark/ScanlineElementsPinLaw", "push", "([I[IZZ)V"⟩ : MethodName)) hown (mvT hZ (hw _ (List.mem_of_getElem? (i := 28) rfl))) (mvT hZ (hw _ (List.mem_of_getElem? (i := 29) rfl))) (mvT hZ (hw _ (List.mem_of_getElem? (i := 30) rfl))) (mvT hZ (hw _ (List.mem_of_getElem? (i := 31) rfl))) (by decide) (backOf (W := 0) (rm5 l Z aw hw [] b33 b34 r3.1 r3.2.1 r3.2.2 d3 i3 h43 n0 Zs_43 A_b33 A_b34 hlr_r3 (by omega) ne_b33_b34 g_b33 g_b34) hZ (hw _ (List.mem_of_getElem? (i := 31) rfl)) (hw _ (List.mem_of_getElem? (i := 30) rfl)) (by decide) (by decide)) (g := (mkF m 405 #[.val (.int p0), .val (.int p1), .val (.int p2), .val (.ref b1), .val (.int wv), .val (.int ov), .val (.int fv), .val (.int tv0), .val (.ref gt), .val (.int x0), .val (.int x1), .val (.int x2), .val (.int x3), .val (.int mn), .val (.int mx), .val (.int tw), .val (.ref b33), .val (.ref b34), .unset] [(.int (own_bit i3)), (.int (own_bit d3)), (.ref b34), (.ref b33)])) rfl (by rw [hml]; rfl) (argsL := [(.ref b33), (.ref b34), (.int (own_bit d3)), (.int (own_bit i3))]) (rest := []) (lenOf pd_2 rfl) rfl (by show 2 * 0 + _ ≤ _; exact Nat.le_of_eq rfl) (hb hby at_405) (fun _ _ => ⟨rfl, e43, (by decide : 5 + 0 ≤ _), (by decide : 25 + 0 ≤ _)⟩)
                          dsimp only [Pt.U, Pt.locs, Pt.cells, Pt.slots] at X46 l46 y46 z46 st46 hQ46
                          subst l46 y46 z46
                          obtain ⟨h46, e46⟩ : ∃ z, T46.heap = z := ⟨_, rfl⟩
                          rw [e46] at hQ46
                          obtain ⟨rfl, Nq46, K46, Y46_0, Y46_1⟩ := hQ46
                          have N46 := Fr.app N43 Nq46
                          replace A_na := A_na.keep K46 (ninS ne_na_b33 (ninS ne_na_b34 nin0))
                          replace A_b1 := A_b1.keep K46 (ninS ne_b1_b33 (ninS ne_b1_b34 nin0))
                          replace A_gt := A_gt.keep K46 (ninS ne_gt_b33 (ninS ne_gt_b34 nin0))
                          have A_b33 : AL Z h46 b33 .int (own_iv (own_push r3 d3 i3).1) := Y46_0
                          have A_b34 : AL Z h46 b34 .int [(.int (Int32.ofNat (own_push r3 d3 i3).2.1)), (.int (own_bit (own_push r3 d3 i3).2.2))] := Y46_1
                          replace O0 := O0.keep K46 (allS g_b33 (allS g_b34 all0))
                          have Zs_46 : n0 ≤ _ := Nat.le_trans Zs_43 K46.1
                          refine own_via st46 ?_
                          show OwnEnds p.tables e below _ (T46.setTop (mkF m 408 #[.val (.int p0), .val (.int p1), .val (.int p2), .val (.ref b1), .val (.int wv), .val (.int ov), .val (.int fv), .val (.int tv0), .val (.ref gt), .val (.int x0), .val (.int x1), .val (.int x2), .val (.int x3), .val (.int mn), .val (.int mx), .val (.int tw), .val (.ref b33), .val (.ref b34), .unset] []))
                          obtain ⟨r4, hr4⟩ : ∃ z, z = own_push r3 d3 i3 := ⟨_, rfl⟩
                          have hlr_r4 : r4.1.length = 6 := by rw [hr4, own_push_len]; exact hlr_r3
                          have hve_r4 : r4.2.1 ≤ 4 := by
                            rw [hr4]; have := own_push_ev r3 d3 i3; omega
                          replace A_b33 : AL Z h46 b33 .int (own_iv r4.1) := by rw [hr4]; exact A_b33
                          replace A_b34 : AL Z h46 b34 .int [(.int (Int32.ofNat r4.2.1)), (.int (own_bit r4.2.2))] := by rw [hr4]; exact A_b34
                          have hmain : own_res ys k wd fN tN fv tv0 = own_exp r4 := by
                            unfold own_res
                            rw [← htw2, own_dseq hwd hw1 hw4 hft htw h_x0 h_x1 h_x2 h_x3 hd0 hd1 hd2 hd3, own_ofI hfN (by omega), own_ofI htN (by omega)]
                            have q := own_main ⟨fN, by omega⟩ ⟨tN, by omega⟩ hft d0 d1 d2 d3
                            rw [hr4, hr3, hr2, hr1, hr0, hi0, hi1, hi2, hi3]
                            exact q
                          refine own_via (fun t k => XS.aload X46.here hx rfl (hb hby at_408) rfl rfl k) ?_
                          show OwnEnds p.tables e below _ (T46.setTop (mkF m 410 #[.val (.int p0), .val (.int p1), .val (.int p2), .val (.ref b1), .val (.int wv), .val (.int ov), .val (.int fv), .val (.int tv0), .val (.ref gt), .val (.int x0), .val (.int x1), .val (.int x2), .val (.int x3), .val (.int mn), .val (.int mx), .val (.int tw), .val (.ref b33), .val (.ref b34), .unset] [(.ref b34)]))
                          refine own_via (fun t k => XS.iconst X46.here hx rfl (hb hby at_410) k) ?_
                          show OwnEnds p.tables e below _ (T46.setTop (mkF m 411 #[.val (.int p0), .val (.int p1), .val (.int p2), .val (.ref b1), .val (.int wv), .val (.int ov), .val (.int fv), .val (.int tv0), .val (.ref gt), .val (.int x0), .val (.int x1), .val (.int x2), .val (.int x3), .val (.int mn), .val (.int mx), .val (.int tw), .val (.ref b33), .val (.ref b34), .unset] [(.int (0 : Int32)), (.ref b34)]))
                          refine own_via (own_ldI X46 hx hZ e46 A_b34 (v := (.int (Int32.ofNat r4.2.1))) 0 rfl rfl (g := (mkF m 411 #[.val (.int p0), .val (.int p1), .val (.int p2), .val (.ref b1), .val (.int wv), .val (.int ov), .val (.int fv), .val (.int tv0), .val (.ref gt), .val (.int x0), .val (.int x1), .val (.int x2), .val (.int x3), .val (.int mn), .val (.int mx), .val (.int tw), .val (.ref b33), .val (.ref b34), .unset] [(.int (0 : Int32)), (.ref b34)])) rfl rfl (hb hby at_411)) ?_
                          show OwnEnds p.tables e below _ (T46.setTop (mkF m 412 #[.val (.int p0), .val (.int p1), .val (.int p2), .val (.ref b1), .val (.int wv), .val (.int ov), .val (.int fv), .val (.int tv0), .val (.ref gt), .val (.int x0), .val (.int x1), .val (.int x2), .val (.int x3), .val (.int mn), .val (.int mx), .val (.int tw), .val (.ref b33), .val (.ref b34), .unset] [(.int (Int32.ofNat r4.2.1))]))
                          refine own_via (fun t k => XS.iconst X46.here hx rfl (hb hby at_412) k) ?_
                          show OwnEnds p.tables e below _ (T46.setTop (mkF m 413 #[.val (.int p0), .val (.int p1), .val (.int p2), .val (.ref b1), .val (.int wv), .val (.int ov), .val (.int fv), .val (.int tv0), .val (.ref gt), .val (.int x0), .val (.int x1), .val (.int x2), .val (.int x3), .val (.int mn), .val (.int mx), .val (.int tw), .val (.ref b33), .val (.ref b34), .unset] [(.int (1 : Int32)), (.int (Int32.ofNat r4.2.1))]))
                          refine own_via (fun t k => XS.iadd X46.here hx rfl (hb hby at_413) rfl k) ?_
                          show OwnEnds p.tables e below _ (T46.setTop (mkF m 414 #[.val (.int p0), .val (.int p1), .val (.int p2), .val (.ref b1), .val (.int wv), .val (.int ov), .val (.int fv), .val (.int tv0), .val (.ref gt), .val (.int x0), .val (.int x1), .val (.int x2), .val (.int x3), .val (.int mn), .val (.int mx), .val (.int tw), .val (.ref b33), .val (.ref b34), .unset] [(.int ((Int32.ofNat r4.2.1) + (1 : Int32)))]))
                          refine own_via (fun t k => XS.istore X46.here hx rfl (hb hby at_414) rfl (l' := #[.val (.int p0), .val (.int p1), .val (.int p2), .val (.ref b1), .val (.int wv), .val (.int ov), .val (.int fv), .val (.int tv0), .val (.ref gt), .val (.int x0), .val (.int x1), .val (.int x2), .val (.int x3), .val (.int mn), .val (.int mx), .val (.int tw), .val (.ref b33), .val (.ref b34), .val (.int ((Int32.ofNat r4.2.1) + (1 : Int32)))]) rfl k) ?_
                          show OwnEnds p.tables e below _ (T46.setTop (mkF m 416 #[.val (.int p0), .val (.int p1), .val (.int p2), .val (.ref b1), .val (.int wv), .val (.int ov), .val (.int fv), .val (.int tv0), .val (.ref gt), .val (.int x0), .val (.int x1), .val (.int x2), .val (.int x3), .val (.int mn), .val (.int mx), .val (.int tw), .val (.ref b33), .val (.ref b34), .val (.int ((Int32.ofNat r4.2.1) + (1 : Int32)))] []))
                          by_cases hcb : r4.2.2 = true
                          · skip
                            refine own_via (fun t k => XS.aload X46.here hx rfl (hb hby at_416) rfl rfl k) ?_
                            show OwnEnds p.tables e below _ (T46.setTop (mkF m 418 #[.val (.int p0), .val (.int p1), .val (.int p2), .val (.ref b1), .val (.int wv), .val (.int ov), .val (.int fv), .val (.int tv0), .val (.ref gt), .val (.int x0), .val (.int x1), .val (.int x2), .val (.int x3), .val (.int mn), .val (.int mx), .val (.int tw), .val (.ref b33), .val (.ref b34), .val (.int ((Int32.ofNat r4.2.1) + (1 : Int32)))] [(.ref b34)]))
                            refine own_via (fun t k => XS.iconst X46.here hx rfl (hb hby at_418) k) ?_
                            show OwnEnds p.tables e below _ (T46.setTop (mkF m 419 #[.val (.int p0), .val (.int p1), .val (.int p2), .val (.ref b1), .val (.int wv), .val (.int ov), .val (.int fv), .val (.int tv0), .val (.ref gt), .val (.int x0), .val (.int x1), .val (.int x2), .val (.int x3), .val (.int mn), .val (.int mx), .val (.int tw), .val (.ref b33), .val (.ref b34), .val (.int ((Int32.ofNat r4.2.1) + (1 : Int32)))] [(.int (1 : Int32)), (.ref b34)]))
                            refine own_via (own_ldI X46 hx hZ e46 A_b34 (v := (.int (own_bit r4.2.2))) 1 rfl rfl (g := (mkF m 419 #[.val (.int p0), .val (.int p1), .val (.int p2), .val (.ref b1), .val (.int wv), .val (.int ov), .val (.int fv), .val (.int tv0), .val (.ref gt), .val (.int x0), .val (.int x1), .val (.int x2), .val (.int x3), .val (.int mn), .val (.int mx), .val (.int tw), .val (.ref b33), .val (.ref b34), .val (.int ((Int32.ofNat r4.2.1) + (1 : Int32)))] [(.int (1 : Int32)), (.ref b34)])) rfl rfl (hb hby at_419)) ?_
                            show OwnEnds p.tables e below _ (T46.setTop (mkF m 420 #[.val (.int p0), .val (.int p1), .val (.int p2), .val (.ref b1), .val (.int wv), .val (.int ov), .val (.int fv), .val (.int tv0), .val (.ref gt), .val (.int x0), .val (.int x1), .val (.int x2), .val (.int x3), .val (.int mn), .val (.int mx), .val (.int tw), .val (.ref b33), .val (.ref b34), .val (.int ((Int32.ofNat r4.2.1) + (1 : Int32)))] [(.int (own_bit r4.2.2))]))
                            refine own_via (fun t k => XS.iconst X46.here hx rfl (hb hby at_420) k) ?_
                            show OwnEnds p.tables e below _ (T46.setTop (mkF m 421 #[.val (.int p0), .val (.int p1), .val (.int p2), .val (.ref b1), .val (.int wv), .val (.int ov), .val (.int fv), .val (.int tv0), .val (.ref gt), .val (.int x0), .val (.int x1), .val (.int x2), .val (.int x3), .val (.int mn), .val (.int mx), .val (.int tw), .val (.ref b33), .val (.ref b34), .val (.int ((Int32.ofNat r4.2.1) + (1 : Int32)))] [(.int (1 : Int32)), (.int (own_bit r4.2.2))]))
                            have hc421_47 : (own_bit r4.2.2) = (1 : Int32) := by rw [hcb]; rfl
                            refine own_via (fun t k => XS.icmpNo X46.here hx rfl (hb hby at_421) rfl (teq hc421_47).2 k) ?_
                            show OwnEnds p.tables e below _ (T46.setTop (mkF m 424 #[.val (.int p0), .val (.int p1), .val (.int p2), .val (.ref b1), .val (.int wv), .val (.int ov), .val (.int fv), .val (.int tv0), .val (.ref gt), .val (.int x0), .val (.int x1), .val (.int x2), .val (.int x3), .val (.int mn), .val (.int mx), .val (.int tw), .val (.ref b33), .val (.ref b34), .val (.int ((Int32.ofNat r4.2.1) + (1 : Int32)))] []))
                            refine own_via (fun t k => XS.aload X46.here hx rfl (hb hby at_424) rfl rfl k) ?_
                            show OwnEnds p.tables e below _ (T46.setTop (mkF m 426 #[.val (.int p0), .val (.int p1), .val (.int p2), .val (.ref b1), .val (.int wv), .val (.int ov), .val (.int fv), .val (.int tv0), .val (.ref gt), .val (.int x0), .val (.int x1), .val (.int x2), .val (.int x3), .val (.int mn), .val (.int mx), .val (.int tw), .val (.ref b33), .val (.ref b34), .val (.int ((Int32.ofNat r4.2.1) + (1 : Int32)))] [(.ref b33)]))
                            refine own_via (fun t k => XS.iload X46.here hx rfl (hb hby at_426) rfl k) ?_
                            show OwnEnds p.tables e below _ (T46.setTop (mkF m 428 #[.val (.int p0), .val (.int p1), .val (.int p2), .val (.ref b1), .val (.int wv), .val (.int ov), .val (.int fv), .val (.int tv0), .val (.ref gt), .val (.int x0), .val (.int x1), .val (.int x2), .val (.int x3), .val (.int mn), .val (.int mx), .val (.int tw), .val (.ref b33), .val (.ref b34), .val (.int ((Int32.ofNat r4.2.1) + (1 : Int32)))] [(.int ((Int32.ofNat r4.2.1) + (1 : Int32))), (.ref b33)]))
                            refine own_via (fun t k => XS.iconst X46.here hx rfl (hb hby at_428) k) ?_
                            show OwnEnds p.tables e below _ (T46.setTop (mkF m 429 #[.val (.int p0), .val (.int p1), .val (.int p2), .val (.ref b1), .val (.int wv), .val (.int ov), .val (.int fv), .val (.int tv0), .val (.ref gt), .val (.int x0), .val (.int x1), .val (.int x2), .val (.int x3), .val (.int mn), .val (.int mx), .val (.int tw), .val (.ref b33), .val (.ref b34), .val (.int ((Int32.ofNat r4.2.1) + (1 : Int32)))] [(.int (0 : Int32)), (.int ((Int32.ofNat r4.2.1) + (1 : Int32))), (.ref b33)]))
                            obtain ⟨T48, h48, X48, e48, W48, AA48, st48⟩ := own_stI X46 hx hZ e46 A_b33 (r4.2.1 + 1) (own_ofN1 (by omega)) (by rw [own_iv_len]; omega) (g := (mkF m 429 #[.val (.int p0), .val (.int p1), .val (.int p2), .val (.ref b1), .val (.int wv), .val (.int ov), .val (.int fv), .val (.int tv0), .val (.ref gt), .val (.int x0), .val (.int x1), .val (.int x2), .val (.int x3), .val (.int mn), .val (.int mx), .val (.int tw), .val (.ref b33), .val (.ref b34), .val (.int ((Int32.ofNat r4.2.1) + (1 : Int32)))] [(.int (0 : Int32)), (.int ((Int32.ofNat r4.2.1) + (1 : Int32))), (.ref b33)])) rfl rfl (hb hby at_429)
                            replace A_na := A_na.other W48 ne_na_b33
                            replace A_b1 := A_b1.other W48 ne_b1_b33
                            replace A_gt := A_gt.other W48 ne_gt_b33
                            replace A_b34 := A_b34.other W48 (Ne.symm ne_b33_b34)
                            replace O0 := O0.wr W48 g_b33
                            have Zs_W48 : n0 ≤ _ := Nat.le_trans Zs_46 (Keep.of_wr W48).1
                            replace A_b33 : AL Z h48 b33 .int ((own_iv r4.1).set (r4.2.1 + 1) (.int (0 : Int32))) := AA48
                            have N48 := Fr.snoc X48 N46 g_b33
                            refine own_via st48 ?_
                            show OwnEnds p.tables e below _ (T48.setTop (mkF m 430 #[.val (.int p0), .val (.int p1), .val (.int p2), .val (.ref b1), .val (.int wv), .val (.int ov), .val (.int fv), .val (.int tv0), .val (.ref gt), .val (.int x0), .val (.int x1), .val (.int x2), .val (.int x3), .val (.int mn), .val (.int mx), .val (.int tw), .val (.ref b33), .val (.ref b34), .val (.int ((Int32.ofNat r4.2.1) + (1 : Int32)))] []))
                            rw [own_iv_set] at A_b33
                            refine own_via (fun t k => XS.iinc X48.here hx rfl (hb hby at_430) rfl (l' := #[.val (.int p0), .val (.int p1), .val (.int p2), .val (.ref b1), .val (.int wv), .val (.int ov), .val (.int fv), .val (.int tv0), .val (.ref gt), .val (.int x0), .val (.int x1), .val (.int x2), .val (.int x3), .val (.int mn), .val (.int mx), .val (.int tw), .val (.ref b33), .val (.ref b34), .val (.int (((Int32.ofNat r4.2.1) + (1 : Int32)) + (1 : Int32)))]) rfl k) ?_
                            show OwnEnds p.tables e below _ (T48.setTop (mkF m 433 #[.val (.int p0), .val (.int p1), .val (.int p2), .val (.ref b1), .val (.int wv), .val (.int ov), .val (.int fv), .val (.int tv0), .val (.ref gt), .val (.int x0), .val (.int x1), .val (.int x2), .val (.int x3), .val (.int mn), .val (.int mx), .val (.int tw), .val (.ref b33), .val (.ref b34), .val (.int (((Int32.ofNat r4.2.1) + (1 : Int32)) + (1 : Int32)))] []))
                            refine own_via (fun t k => XS.aload X48.here hx rfl (hb hby at_433) rfl rfl k) ?_
                            show OwnEnds p.tables e below _ (T48.setTop (mkF m 435 #[.val (.int p0), .val (.int p1), .val (.int p2), .val (.ref b1), .val (.int wv), .val (.int ov), .val (.int fv), .val (.int tv0), .val (.ref gt), .val (.int x0), .val (.int x1), .val (.int x2), .val (.int x3), .val (.int mn), .val (.int mx), .val (.int tw), .val (.ref b33), .val (.ref b34), .val (.int (((Int32.ofNat r4.2.1) + (1 : Int32)) + (1 : Int32)))] [(.ref gt)]))
                            refine own_via (fun t k => XS.aload X48.here hx rfl (hb hby at_435) rfl rfl k) ?_
                            show OwnEnds p.tables e below _ (T48.setTop (mkF m 437 #[.val (.int p0), .val (.int p1), .val (.int p2), .val (.ref b1), .val (.int wv), .val (.int ov), .val (.int fv), .val (.int tv0), .val (.ref gt), .val (.int x0), .val (.int x1), .val (.int x2), .val (.int x3), .val (.int mn), .val (.int mx), .val (.int tw), .val (.ref b33), .val (.ref b34), .val (.int (((Int32.ofNat r4.2.1) + (1 : Int32)) + (1 : Int32)))] [(.ref b33), (.ref gt)]))
                            refine own_via (fun t k => XS.iload X48.here hx rfl (hb hby at_437) rfl k) ?_
                            show OwnEnds p.tables e below _ (T48.setTop (mkF m 439 #[.val (.int p0), .val (.int p1), .val (.int p2), .val (.ref b1), .val (.int wv), .val (.int ov), .val (.int fv), .val (.int tv0), .val (.ref gt), .val (.int x0), .val (.int x1), .val (.int x2), .val (.int x3), .val (.int mn), .val (.int mx), .val (.int tw), .val (.ref b33), .val (.ref b34), .val (.int (((Int32.ofNat r4.2.1) + (1 : Int32)) + (1 : Int32)))] [(.int (((Int32.ofNat r4.2.1) + (1 : Int32)) + (1 : Int32))), (.ref b33), (.ref gt)]))
                            rw [own_of2]
                            show OwnEnds p.tables e below _ (T48.setTop (mkF m 439 #[.val (.int p0), .val (.int p1), .val (.int p2), .val (.ref b1), .val (.int wv), .val (.int ov), .val (.int fv), .val (.int tv0), .val (.ref gt), .val (.int x0), .val (.int x1), .val (.int x2), .val (.int x3), .val (.int mn), .val (.int mx), .val (.int tw), .val (.ref b33), .val (.ref b34), .val (.int (Int32.ofNat (r4.2.1 + 2)))] [(.int (Int32.ofNat (r4.2.1 + 2))), (.ref b33), (.ref gt)]))
                            obtain ⟨_, _, ⟨T49, L49, k49, n49⟩, -, X49, ⟨Lc49, hQ49, l49, y49, z49⟩, st49⟩ := Jvm.LawKit.callS X48 hx (y := (⟨"com/example/shelfmark/shelfmark/ScanlineElementsPinLaw", "same", "([I[II)Z"⟩ : MethodName)) hown (mvT hZ (hw _ (List.mem_of_getElem? (i := 32) rfl))) (mvT hZ (hw _ (List.mem_of_getElem? (i := 33) rfl))) (mvT hZ (hw _ (List.mem_of_getElem? (i := 30) rfl))) (mvT hZ (hw _ (List.mem_of_getElem? (i := 34) rfl))) (by decide) (backOf (W := 0) (rm6 l Z aw hw [] gt b33 (own_res ys k wd fN tN fv tv0) (r4.1.set (r4.2.1 + 1) 0) (r4.2.1 + 2) h48 n0 Zs_W48 A_gt A_b33 (by rw [hmain]; unfold own_exp; rw [if_pos hcb]) (by rw [List.length_set]; exact hlr_r4) (by omega) (by omega)) hZ (hw _ (List.mem_of_getElem? (i := 34) rfl)) (hw _ (List.mem_of_getElem? (i := 30) rfl)) (by decide) (by decide)) (g := (mkF m 439 #[.val (.int p0), .val (.int p1), .val (.int p2), .val (.ref b1), .val (.int wv), .val (.int ov), .val (.int fv), .val (.int tv0), .val (.ref gt), .val (.int x0), .val (.int x1), .val (.int x2), .val (.int x3), .val (.int mn), .val (.int mx), .val (.int tw), .val (.ref b33), .val (.ref b34), .val (.int (Int32.ofNat (r4.2.1 + 2)))] [(.int (Int32.ofNat (r4.2.1 + 2))), (.ref b33), (.ref gt)])) rfl (by rw [hml]; rfl) (argsL := [(.ref gt), (.ref b33), (.int (Int32.ofNat (r4.2.1 + 2)))]) (rest := []) (lenOf pd_3 rfl) rfl (by show 2 * 0 + _ ≤ _; exact Nat.le_of_eq rfl) (hb hby at_439) (fun _ _ => ⟨rfl, e48, (by decide : 5 + 0 ≤ _), (by decide : 25 + 0 ≤ _)⟩)
                            dsimp only [Pt.U, Pt.locs, Pt.cells, Pt.slots] at X49 l49 y49 z49 st49 hQ49
                            subst l49 y49 z49
                            obtain ⟨rfl, Nq49, e49⟩ := hQ49
                            have N49 := Fr.app N48 Nq49
                            replace e49 : T49.heap = h48 := e49
                            refine own_via st49 ?_
                            show OwnEnds p.tables e below _ (T49.setTop (mkF m 442 #[.val (.int p0), .val (.int p1), .val (.int p2), .val (.ref b1), .val (.int wv), .val (.int ov), .val (.int fv), .val (.int tv0), .val (.ref gt), .val (.int x0), .val (.int x1), .val (.int x2), .val (.int x3), .val (.int mn), .val (.int mx), .val (.int tw), .val (.ref b33), .val (.ref b34), .val (.int (Int32.ofNat (r4.2.1 + 2)))] [(.int (1 : Int32))]))
                            refine own_retN (t := .boolean) X49 hx Bd.returns (by simp) hlk (hb hby at_442) ?_ (by decide) (by decide)
                            rw [e49]
                            exact ⟨rfl, N49⟩
                          · skip
                            refine own_via (fun t k => XS.aload X46.here hx rfl (hb hby at_416) rfl rfl k) ?_
                            show OwnEnds p.tables e below _ (T46.setTop (mkF m 418 #[.val (.int p0), .val (.int p1), .val (.int p2), .val (.ref b1), .val (.int wv), .val (.int ov), .val (.int fv), .val (.int tv0), .val (.ref gt), .val (.int x0), .val (.int x1), .val (.int x2), .val (.int x3), .val (.int mn), .val (.int mx), .val (.int tw), .val (.ref b33), .val (.ref b34), .val (.int ((Int32.ofNat r4.2.1) + (1 : Int32)))] [(.ref b34)]))
                            refine own_via (fun t k => XS.iconst X46.here hx rfl (hb hby at_418) k) ?_
                            show OwnEnds p.tables e below _ (T46.setTop (mkF m 419 #[.val (.int p0), .val (.int p1), .val (.int p2), .val (.ref b1), .val (.int wv), .val (.int ov), .val (.int fv), .val (.int tv0), .val (.ref gt), .val (.int x0), .val (.int x1), .val (.int x2), .val (.int x3), .val (.int mn), .val (.int mx), .val (.int tw), .val (.ref b33), .val (.ref b34), .val (.int ((Int32.ofNat r4.2.1) + (1 : Int32)))] [(.int (1 : Int32)), (.ref b34)]))
                            refine own_via (own_ldI X46 hx hZ e46 A_b34 (v := (.int (own_bit r4.2.2))) 1 rfl rfl (g := (mkF m 419 #[.val (.int p0), .val (.int p1), .val (.int p2), .val (.ref b1), .val (.int wv), .val (.int ov), .val (.int fv), .val (.int tv0), .val (.ref gt), .val (.int x0), .val (.int x1), .val (.int x2), .val (.int x3), .val (.int mn), .val (.int mx), .val (.int tw), .val (.ref b33), .val (.ref b34), .val (.int ((Int32.ofNat r4.2.1) + (1 : Int32)))] [(.int (1 : Int32)), (.ref b34)])) rfl rfl (hb hby at_419)) ?_
                            show OwnEnds p.tables e below _ (T46.setTop (mkF m 420 #[.val (.int p0), .val (.int p1), .val (.int p2), .val (.ref b1), .val (.int wv), .val (.int ov), .val (.int fv), .val (.int tv0), .val (.ref gt), .val (.int x0), .val (.int x1), .val (.int x2), .val (.int x3), .val (.int mn), .val (.int mx), .val (.int tw), .val (.ref b33), .val (.ref b34), .val (.int ((Int32.ofNat r4.2.1) + (1 : Int32)))] [(.int (own_bit r4.2.2))]))
                            refine own_via (fun t k => XS.iconst X46.here hx rfl (hb hby at_420) k) ?_
                            show OwnEnds p.tables e below _ (T46.setTop (mkF m 421 #[.val (.int p0), .val (.int p1), .val (.int p2), .val (.ref b1), .val (.int wv), .val (.int ov), .val (.int fv), .val (.int tv0), .val (.ref gt), .val (.int x0), .val (.int x1), .val (.int x2), .val (.int x3), .val (.int mn), .val (.int mx), .val (.int tw), .val (.ref b33), .val (.ref b34), .val (.int ((Int32.ofNat r4.2.1) + (1 : Int32)))] [(.int (1 : Int32)), (.int (own_bit r4.2.2))]))
                            have hc421_50 : ¬ ((own_bit r4.2.2) = (1 : Int32)) := by rw [Bool.eq_false_iff.mpr hcb]; decide
                            refine own_via (fun t k => XS.icmpYes X46.here hx rfl (pc0 := 421) (pc' := 433) rfl (hb hby at_421) rfl (feq hc421_50).2 (by decide) (by decide) k) ?_
                            show OwnEnds p.tables e below _ (T46.setTop (mkF m 433 #[.val (.int p0), .val (.int p1), .val (.int p2), .val (.ref b1), .val (.int wv), .val (.int ov), .val (.int fv), .val (.int tv0), .val (.ref gt), .val (.int x0), .val (.int x1), .val (.int x2), .val (.int x3), .val (.int mn), .val (.int mx), .val (.int tw), .val (.ref b33), .val (.ref b34), .val (.int ((Int32.ofNat r4.2.1) + (1 : Int32)))] []))
                            refine own_via (fun t k => XS.aload X46.here hx rfl (hb hby at_433) rfl rfl k) ?_
                            show OwnEnds p.tables e below _ (T46.setTop (mkF m 435 #[.val (.int p0), .val (.int p1), .val (.int p2), .val (.ref b1), .val (.int wv), .val (.int ov), .val (.int fv), .val (.int tv0), .val (.ref gt), .val (.int x0), .val (.int x1), .val (.int x2), .val (.int x3), .val (.int mn), .val (.int mx), .val (.int tw), .val (.ref b33), .val (.ref b34), .val (.int ((Int32.ofNat r4.2.1) + (1 : Int32)))] [(.ref gt)]))
                            refine own_via (fun t k => XS.aload X46.here hx rfl (hb hby at_435) rfl rfl k) ?_
                            show OwnEnds p.tables e below _ (T46.setTop (mkF m 437 #[.val (.int p0), .val (.int p1), .val (.int p2), .val (.ref b1), .val (.int wv), .val (.int ov), .val (.int fv), .val (.int tv0), .val (.ref gt), .val (.int x0), .val (.int x1), .val (.int x2), .val (.int x3), .val (.int mn), .val (.int mx), .val (.int tw), .val (.ref b33), .val (.ref b34), .val (.int ((Int32.ofNat r4.2.1) + (1 : Int32)))] [(.ref b33), (.ref gt)]))
                            refine own_via (fun t k => XS.iload X46.here hx rfl (hb hby at_437) rfl k) ?_
                            show OwnEnds p.tables e below _ (T46.setTop (mkF m 439 #[.val (.int p0), .val (.int p1), .val (.int p2), .val (.ref b1), .val (.int wv), .val (.int ov), .val (.int fv), .val (.int tv0), .val (.ref gt), .val (.int x0), .val (.int x1), .val (.int x2), .val (.int x3), .val (.int mn), .val (.int mx), .val (.int tw), .val (.ref b33), .val (.ref b34), .val (.int ((Int32.ofNat r4.2.1) + (1 : Int32)))] [(.int ((Int32.ofNat r4.2.1) + (1 : Int32))), (.ref b33), (.ref gt)]))
                            rw [own_of1]
                            show OwnEnds p.tables e below _ (T46.setTop (mkF m 439 #[.val (.int p0), .val (.int p1), .val (.int p2), .val (.ref b1), .val (.int wv), .val (.int ov), .val (.int fv), .val (.int tv0), .val (.ref gt), .val (.int x0), .val (.int x1), .val (.int x2), .val (.int x3), .val (.int mn), .val (.int mx), .val (.int tw), .val (.ref b33), .val (.ref b34), .val (.int (Int32.ofNat (r4.2.1 + 1)))] [(.int (Int32.ofNat (r4.2.1 + 1))), (.ref b33), (.ref gt)]))
                            obtain ⟨_, _, ⟨T51, L51, k51, n51⟩, -, X51, ⟨Lc51, hQ51, l51, y51, z51⟩, st51⟩ := Jvm.LawKit.callS X46 hx (y := (⟨"com/example/shelfmark/shelfmark/ScanlineElementsPinLaw", "same", "([I[II)Z"⟩ : MethodName)) hown (mvT hZ (hw _ (List.mem_of_getElem? (i := 32) rfl))) (mvT hZ (hw _ (List.mem_of_getElem? (i := 33) rfl))) (mvT hZ (hw _ (List.mem_of_getElem? (i := 30) rfl))) (mvT hZ (hw _ (List.mem_of_getElem? (i := 34) rfl))) (by decide) (backOf (W := 0) (rm6 l Z aw hw [] gt b33 (own_res ys k wd fN tN fv tv0) r4.1 (r4.2.1 + 1) h46 n0 Zs_46 A_gt A_b33 (by rw [hmain]; unfold own_exp; rw [if_neg hcb]) hlr_r4 (by omega) (by omega)) hZ (hw _ (List.mem_of_getElem? (i := 34) rfl)) (hw _ (List.mem_of_getElem? (i := 30) rfl)) (by decide) (by decide)) (g := (mkF m 439 #[.val (.int p0), .val (.int p1), .val (.int p2), .val (.ref b1), .val (.int wv), .val (.int ov), .val (.int fv), .val (.int tv0), .val (.ref gt), .val (.int x0), .val (.int x1), .val (.int x2), .val (.int x3), .val (.int mn), .val (.int mx), .val (.int tw), .val (.ref b33), .val (.ref b34), .val (.int (Int32.ofNat (r4.2.1 + 1)))] [(.int (Int32.ofNat (r4.2.1 + 1))), (.ref b33), (.ref gt)])) rfl (by rw [hml]; rfl) (argsL := [(.ref gt), (.ref b33), (.int (Int32.ofNat (r4.2.1 + 1)))]) (rest := []) (lenOf pd_3 rfl) rfl (by show 2 * 0 + _ ≤ _; exact Nat.le_of_eq rfl) (hb hby at_439) (fun _ _ => ⟨rfl, e46, (by decide : 5 + 0 ≤ _), (by decide : 25 + 0 ≤ _)⟩)
                            dsimp only [Pt.U, Pt.locs, Pt.cells, Pt.slots] at X51 l51 y51 z51 st51 hQ51
                            subst l51 y51 z51
                            obtain ⟨rfl, Nq51, e51⟩ := hQ51
                            have N51 := Fr.app N46 Nq51
                            replace e51 : T51.heap = h46 := e51
                            refine own_via st51 ?_
                            show OwnEnds p.tables e below _ (T51.setTop (mkF m 442 #[.val (.int p0), .val (.int p1), .val (.int p2), .val (.ref b1), .val (.int wv), .val (.int ov), .val (.int fv), .val (.int tv0), .val (.ref gt), .val (.int x0), .val (.int x1), .val (.int x2), .val (.int x3), .val (.int mn), .val (.int mx), .val (.int tw), .val (.ref b33), .val (.ref b34), .val (.int (Int32.ofNat (r4.2.1 + 1)))] [(.int (1 : Int32))]))
                            refine own_retN (t := .boolean) X51 hx Bd.returns (by simp) hlk (hb hby at_442) ?_ (by decide) (by decide)
                            rw [e51]
                            exact ⟨rfl, N51⟩
                        by_cases hc391_52 : (3 : Int32) < fv
                        · skip
                          refine own_via (fun t k => XS.icmpYes X43.here hx rfl (pc0 := 391) (pc' := 404) rfl (hb hby at_391) rfl (tlt hc391_52).2.2.1 (by decide) (by decide) k) ?_
                          show OwnEnds p.tables e below _ (T43.setTop (mkF m 404 #[.val (.int p0), .val (.int p1), .val (.int p2), .val (.ref b1), .val (.int wv), .val (.int ov), .val (.int fv), .val (.int tv0), .val (.ref gt), .val (.int x0), .val (.int x1), .val (.int x2), .val (.int x3), .val (.int mn), .val (.int mx), .val (.int tw), .val (.ref b33), .val (.ref b34), .unset] [(.int dk3), (.ref b34), (.ref b33)]))
                          refine own_via (fun t k => XS.iconst X43.here hx rfl (hb hby at_404) k) ?_
                          show OwnEnds p.tables e below _ (T43.setTop (mkF m 405 #[.val (.int p0), .val (.int p1), .val (.int p2), .val (.ref b1), .val (.int wv), .val (.int ov), .val (.int fv), .val (.int tv0), .val (.ref gt), .val (.int x0), .val (.int x1), .val (.int x2), .val (.int x3), .val (.int mn), .val (.int mx), .val (.int tw), .val (.ref b33), .val (.ref b34), .unset] [(.int (0 : Int32)), (.int dk3), (.ref b34), (.ref b33)]))
                          exact J405_45 _ (by simp only [if_pos hc391_52])
                        · skip
                          refine own_via (fun t k => XS.icmpNo X43.here hx rfl (hb hby at_391) rfl (flt hc391_52).2.2.1 k) ?_
                          show OwnEnds p.tables e below _ (T43.setTop (mkF m 394 #[.val (.int p0), .val (.int p1), .val (.int p2), .val (.ref b1), .val (.int wv), .val (.int ov), .val (.int fv), .val (.int tv0), .val (.ref gt), .val (.int x0), .val (.int x1), .val (.int x2), .val (.int x3), .val (.int mn), .val (.int mx), .val (.int tw), .val (.ref b33), .val (.ref b34), .unset] [(.int dk3), (.ref b34), (.ref b33)]))
                          refine own_via (fun t k => XS.iconst X43.here hx rfl (hb hby at_394) k) ?_
                          show OwnEnds p.tables e below _ (T43.setTop (mkF m 395 #[.val (.int p0), .val (.int p1), .val (.int p2), .val (.ref b1), .val (.int wv), .val (.int ov), .val (.int fv), .val (.int tv0), .val (.ref gt), .val (.int x0), .val (.int x1), .val (.int x2), .val (.int x3), .val (.int mn), .val (.int mx), .val (.int tw), .val (.ref b33), .val (.ref b34), .unset] [(.int (3 : Int32)), (.int dk3), (.ref b34), (.ref b33)]))
                          refine own_via (fun t k => XS.iload X43.here hx rfl (hb hby at_395) rfl k) ?_
                          show OwnEnds p.tables e below _ (T43.setTop (mkF m 397 #[.val (.int p0), .val (.int p1), .val (.int p2), .val (.ref b1), .val (.int wv), .val (.int ov), .val (.int fv), .val (.int tv0), .val (.ref gt), .val (.int x0), .val (.int x1), .val (.int x2), .val (.int x3), .val (.int mn), .val (.int mx), .val (.int tw), .val (.ref b33), .val (.ref b34), .unset] [(.int tv0), (.int (3 : Int32)), (.int dk3), (.ref b34), (.ref b33)]))
                          by_cases hc397_53 : (3 : Int32) < tv0
                          · skip
                            refine own_via (fun t k => XS.icmpNo X43.here hx rfl (hb hby at_397) rfl (tlt hc397_53).2.1 k) ?_
                            show OwnEnds p.tables e below _ (T43.setTop (mkF m 400 #[.val (.int p0), .val (.int p1), .val (.int p2), .val (.ref b1), .val (.int wv), .val (.int ov), .val (.int fv), .val (.int tv0), .val (.ref gt), .val (.int x0), .val (.int x1), .val (.int x2), .val (.int x3), .val (.int mn), .val (.int mx), .val (.int tw), .val (.ref b33), .val (.ref b34), .unset] [(.int dk3), (.ref b34), (.ref b33)]))
                            refine own_via (fun t k => XS.iconst X43.here hx rfl (hb hby at_400) k) ?_
                            show OwnEnds p.tables e below _ (T43.setTop (mkF m 401 #[.val (.int p0), .val (.int p1), .val (.int p2), .val (.ref b1), .val (.int wv), .val (.int ov), .val (.int fv), .val (.int tv0), .val (.ref gt), .val (.int x0), .val (.int x1), .val (.int x2), .val (.int x3), .val (.int mn), .val (.int mx), .val (.int tw), .val (.ref b33), .val (.ref b34), .unset] [(.int (1 : Int32)), (.int dk3), (.ref b34), (.ref b33)]))
                            refine own_via (fun t k => XS.goto X43.here hx rfl (pc0 := 401) (pc' := 405) rfl (hb hby at_401) (by decide) (by decide) k) ?_
                            show OwnEnds p.tables e below _ (T43.setTop (mkF m 405 #[.val (.int p0), .val (.int p1), .val (.int p2), .val (.ref b1), .val (.int wv), .val (.int ov), .val (.int fv), .val (.int tv0), .val (.ref gt), .val (.int x0), .val (.int x1), .val (.int x2), .val (.int x3), .val (.int mn), .val (.int mx), .val (.int tw), .val (.ref b33), .val (.ref b34), .unset] [(.int (1 : Int32)), (.int dk3), (.ref b34), (.ref b33)]))
                            exact J405_45 _ (by simp only [if_neg hc391_52, if_pos hc397_53])
                          · skip
                            refine own_via (fun t k => XS.icmpYes X43.here hx rfl (pc0 := 397) (pc' := 404) rfl (hb hby at_397) rfl (flt hc397_53).2.1 (by decide) (by decide) k) ?_
                            show OwnEnds p.tables e below _ (T43.setTop (mkF m 404 #[.val (.int p0), .val (.int p1), .val (.int p2), .val (.ref b1), .val (.int wv), .val (.int ov), .val (.int fv), .val (.int tv0), .val (.ref gt), .val (.int x0), .val (.int x1), .val (.int x2), .val (.int x3), .val (.int mn), .val (.int mx), .val (.int tw), .val (.ref b33), .val (.ref b34), .unset] [(.int dk3), (.ref b34), (.ref b33)]))
                            refine own_via (fun t k => XS.iconst X43.here hx rfl (hb hby at_404) k) ?_
                            show OwnEnds p.tables e below _ (T43.setTop (mkF m 405 #[.val (.int p0), .val (.int p1), .val (.int p2), .val (.ref b1), .val (.int wv), .val (.int ov), .val (.int fv), .val (.int tv0), .val (.ref gt), .val (.int x0), .val (.int x1), .val (.int x2), .val (.int x3), .val (.int mn), .val (.int mx), .val (.int tw), .val (.ref b33), .val (.ref b34), .unset] [(.int (0 : Int32)), (.int dk3), (.ref b34), (.ref b33)]))
                            exact J405_45 _ (by simp only [if_neg hc391_52, if_neg hc397_53])
                      by_cases hc380_54 : x3 < tw
                      · skip
                        refine own_via (fun t k => XS.icmpNo X43.here hx rfl (hb hby at_380) rfl (tlt hc380_54).2.1 k) ?_
                        show OwnEnds p.tables e below _ (T43.setTop (mkF m 383 #[.val (.int p0), .val (.int p1), .val (.int p2), .val (.ref b1), .val (.int wv), .val (.int ov), .val (.int fv), .val (.int tv0), .val (.ref gt), .val (.int x0), .val (.int x1), .val (.int x2), .val (.int x3), .val (.int mn), .val (.int mx), .val (.int tw), .val (.ref b33), .val (.ref b34), .unset] [(.ref b34), (.ref b33)]))
                        refine own_via (fun t k => XS.iconst X43.here hx rfl (hb hby at_383) k) ?_
                        show OwnEnds p.tables e below _ (T43.setTop (mkF m 384 #[.val (.int p0), .val (.int p1), .val (.int p2), .val (.ref b1), .val (.int wv), .val (.int ov), .val (.int fv), .val (.int tv0), .val (.ref gt), .val (.int x0), .val (.int x1), .val (.int x2), .val (.int x3), .val (.int mn), .val (.int mx), .val (.int tw), .val (.ref b33), .val (.ref b34), .unset] [(.int (1 : Int32)), (.ref b34), (.ref b33)]))
                        refine own_via (fun t k => XS.goto X43.here hx rfl (pc0 := 384) (pc' := 388) rfl (hb hby at_384) (by decide) (by decide) k) ?_
                        show OwnEnds p.tables e below _ (T43.setTop (mkF m 388 #[.val (.int p0), .val (.int p1), .val (.int p2), .val (.ref b1), .val (.int wv), .val (.int ov), .val (.int fv), .val (.int tv0), .val (.ref gt), .val (.int x0), .val (.int x1), .val (.int x2), .val (.int x3), .val (.int mn), .val (.int mx), .val (.int tw), .val (.ref b33), .val (.ref b34), .unset] [(.int (1 : Int32)), (.ref b34), (.ref b33)]))
                        exact J388_44 _ (by simp only [if_pos hc380_54])
                      · skip
                        refine own_via (fun t k => XS.icmpYes X43.here hx rfl (pc0 := 380) (pc' := 387) rfl (hb hby at_380) rfl (flt hc380_54).2.1 (by decide) (by decide) k) ?_
                        show OwnEnds p.tables e below _ (T43.setTop (mkF m 387 #[.val (.int p0), .val (.int p1), .val (.int p2), .val (.ref b1), .val (.int wv), .val (.int ov), .val (.int fv), .val (.int tv0), .val (.ref gt), .val (.int x0), .val (.int x1), .val (.int x2), .val (.int x3), .val (.int mn), .val (.int mx), .val (.int tw), .val (.ref b33), .val (.ref b34), .unset] [(.ref b34), (.ref b33)]))
                        refine own_via (fun t k => XS.iconst X43.here hx rfl (hb hby at_387) k) ?_
                        show OwnEnds p.tables e below _ (T43.setTop (mkF m 388 #[.val (.int p0), .val (.int p1), .val (.int p2), .val (.ref b1), .val (.int wv), .val (.int ov), .val (.int fv), .val (.int tv0), .val (.ref gt), .val (.int x0), .val (.int x1), .val (.int x2), .val (.int x3), .val (.int mn), .val (.int mx), .val (.int tw), .val (.ref b33), .val (.ref b34), .unset] [(.int (0 : Int32)), (.ref b34), (.ref b33)]))
                        exact J388_44 _ (by simp only [if_neg hc380_54])
                    by_cases hc355_55 : (2 : Int32) < fv
                    · skip
                      refine own_via (fun t k => XS.icmpYes X40.here hx rfl (pc0 := 355) (pc' := 368) rfl (hb hby at_355) rfl (tlt hc355_55).2.2.1 (by decide) (by decide) k) ?_
                      show OwnEnds p.tables e below _ (T40.setTop (mkF m 368 #[.val (.int p0), .val (.int p1), .val (.int p2), .val (.ref b1), .val (.int wv), .val (.int ov), .val (.int fv), .val (.int tv0), .val (.ref gt), .val (.int x0), .val (.int x1), .val (.int x2), .val (.int x3), .val (.int mn), .val (.int mx), .val (.int tw), .val (.ref b33), .val (.ref b34), .unset] [(.int dk2), (.ref b34), (.ref b33)]))
                      refine own_via (fun t k => XS.iconst X40.here hx rfl (hb hby at_368) k) ?_
                      show OwnEnds p.tables e below _ (T40.setTop (mkF m 369 #[.val (.int p0), .val (.int p1), .val (.int p2), .val (.ref b1), .val (.int wv), .val (.int ov), .val (.int fv), .val (.int tv0), .val (.ref gt), .val (.int x0), .val (.int x1), .val (.int x2), .val (.int x3), .val (.int mn), .val (.int mx), .val (.int tw), .val (.ref b33), .val (.ref b34), .unset] [(.int (0 : Int32)), (.int dk2), (.ref b34), (.ref b33)]))
                      exact J369_42 _ (by simp only [if_pos hc355_55])
                    · skip
                      refine own_via (fun t k => XS.icmpNo X40.here hx rfl (hb hby at_355) rfl (flt hc355_55).2.2.1 k) ?_
                      show OwnEnds p.tables e below _ (T40.setTop (mkF m 358 #[.val (.int p0), .val (.int p1), .val (.int p2), .val (.ref b1), .val (.int wv), .val (.int ov), .val (.int fv), .val (.int tv0), .val (.ref gt), .val (.int x0), .val (.int x1), .val (.int x2), .val (.int x3), .val (.int mn), .val (.int mx), .val (.int tw), .val (.ref b33), .val (.ref b34), .unset] [(.int dk2), (.ref b34), (.ref b33)]))
                      refine own_via (fun t k => XS.iconst X40.here hx rfl (hb hby at_358) k) ?_
                      show OwnEnds p.tables e below _ (T40.setTop (mkF m 359 #[.val (.int p0), .val (.int p1), .val (.int p2), .val (.ref b1), .val (.int wv), .val (.int ov), .val (.int fv), .val (.int tv0), .val (.ref gt), .val (.int x0), .val (.int x1), .val (.int x2), .val (.int x3), .val (.int mn), .val (.int mx), .val (.int tw), .val (.ref b33), .val (.ref b34), .unset] [(.int (2 : Int32)), (.int dk2), (.ref b34), (.ref b33)]))
                      refine own_via (fun t k => XS.iload X40.here hx rfl (hb hby at_359) rfl k) ?_
                      show OwnEnds p.tables e below _ (T40.setTop (mkF m 361 #[.val (.int p0), .val (.int p1), .val (.int p2), .val (.ref b1), .val (.int wv), .val (.int ov), .val (.int fv), .val (.int tv0), .val (.ref gt), .val (.int x0), .val (.int x1), .val (.int x2), .val (.int x3), .val (.int mn), .val (.int mx), .val (.int tw), .val (.ref b33), .val (.ref b34), .unset] [(.int tv0), (.int (2 : Int32)), (.int dk2), (.ref b34), (.ref b33)]))
                      by_cases hc361_56 : (2 : Int32) < tv0
                      · skip
                        refine own_via (fun t k => XS.icmpNo X40.here hx rfl (hb hby at_361) rfl (tlt hc361_56).2.1 k) ?_
                        show OwnEnds p.tables e below _ (T40.setTop (mkF m 364 #[.val (.int p0), .val (.int p1), .val (.int p2), .val (.ref b1), .val (.int wv), .val (.int ov), .val (.int fv), .val (.int tv0), .val (.ref gt), .val (.int x0), .val (.int x1), .val (.int x2), .val (.int x3), .val (.int mn), .val (.int mx), .val (.int tw), .val (.ref b33), .val (.ref b34), .unset] [(.int dk2), (.ref b34), (.ref b33)]))
                        refine own_via (fun t k => XS.iconst X40.here hx rfl (hb hby at_364) k) ?_
                        show OwnEnds p.tables e below _ (T40.setTop (mkF m 365 #[.val (.int p0), .val (.int p1), .val (.int p2), .val (.ref b1), .val (.int wv), .val (.int ov), .val (.int fv), .val (.int tv0), .val (.ref gt), .val (.int x0), .val (.int x1), .val (.int x2), .val (.int x3), .val (.int mn), .val (.int mx), .val (.int tw), .val (.ref b33), .val (.ref b34), .unset] [(.int (1 : Int32)), (.int dk2), (.ref b34), (.ref b33)]))
                        refine own_via (fun t k => XS.goto X40.here hx rfl (pc0 := 365) (pc' := 369) rfl (hb hby at_365) (by decide) (by decide) k) ?_
                        show OwnEnds p.tables e below _ (T40.setTop (mkF m 369 #[.val (.int p0), .val (.int p1), .val (.int p2), .val (.ref b1), .val (.int wv), .val (.int ov), .val (.int fv), .val (.int tv0), .val (.ref gt), .val (.int x0), .val (.int x1), .val (.int x2), .val (.int x3), .val (.int mn), .val (.int mx), .val (.int tw), .val (.ref b33), .val (.ref b34), .unset] [(.int (1 : Int32)), (.int dk2), (.ref b34), (.ref b33)]))
                        exact J369_42 _ (by simp only [if_neg hc355_55, if_pos hc361_56])
                      · skip
                        refine own_via (fun t k => XS.icmpYes X40.here hx rfl (pc0 := 361) (pc' := 368) rfl (hb hby at_361) rfl (flt hc361_56).2.1 (by decide) (by decide) k) ?_
                        show OwnEnds p.tables e below _ (T40.setTop (mkF m 368 #[.val (.int p0), .val (.int p1), .val (.int p2), .val (.ref b1), .val (.int wv), .val (.int ov), .val (.int fv), .val (.int tv0), .val (.ref gt), .val (.int x0), .val (.int x1), .val (.int x2), .val (.int x3), .val (.int mn), .val (.int mx), .val (.int tw), .val (.ref b33), .val (.ref b34), .unset] [(.int dk2), (.ref b34), (.ref b33)]))
                        refine own_via (fun t k => XS.iconst X40.here hx rfl (hb hby at_368) k) ?_
                        show OwnEnds p.tables e below _ (T40.setTop (mkF m 369 #[.val (.int p0), .val (.int p1), .val (.int p2), .val (.ref b1), .val (.int wv), .val (.int ov), .val (.int fv), .val (.int tv0), .val (.ref gt), .val (.int x0), .val (.int x1), .val (.int x2), .val (.int x3), .val (.int mn), .val (.int mx), .val (.int tw), .val (.ref b33), .val (.ref b34), .unset] [(.int (0 : Int32)), (.int dk2), (.ref b34), (.ref b33)]))
                        exact J369_42 _ (by simp only [if_neg hc355_55, if_neg hc361_56])
                  by_cases hc344_57 : x2 < tw
                  · skip
                    refine own_via (fun t k => XS.icmpNo X40.here hx rfl (hb hby at_344) rfl (tlt hc344_57).2.1 k) ?_
                    show OwnEnds p.tables e below _ (T40.setTop (mkF m 347 #[.val (.int p0), .val (.int p1), .val (.int p2), .val (.ref b1), .val (.int wv), .val (.int ov), .val (.int fv), .val (.int tv0), .val (.ref gt), .val (.int x0), .val (.int x1), .val (.int x2), .val (.int x3), .val (.int mn), .val (.int mx), .val (.int tw), .val (.ref b33), .val (.ref b34), .unset] [(.ref b34), (.ref b33)]))
                    refine own_via (fun t k => XS.iconst X40.here hx rfl (hb hby at_347) k) ?_
                    show OwnEnds p.tables e below _ (T40.setTop (mkF m 348 #[.val (.int p0), .val (.int p1), .val (.int p2), .val (.ref b1), .val (.int wv), .val (.int ov), .val (.int fv), .val (.int tv0), .val (.ref gt), .val (.int x0), .val (.int x1), .val (.int x2), .val (.int x3), .val (.int mn), .val (.int mx), .val (.int tw), .val (.ref b33), .val (.ref b34), .unset] [(.int (1 : Int32)), (.ref b34), (.ref b33)]))
                    refine own_via (fun t k => XS.goto X40.here hx rfl (pc0 := 348) (pc' := 352) rfl (hb hby at_348) (by decide) (by decide) k) ?_
                    show OwnEnds p.tables e below _ (T40.setTop (mkF m 352 #[.val (.int p0), .val (.int p1), .val (.int p2), .val (.ref b1), .val (.int wv), .val (.int ov), .val (.int fv), .val (.int tv0), .val (.ref gt), .val (.int x0), .val (.int x1), .val (.int x2), .val (.int x3), .val (.int mn), .val (.int mx), .val (.int tw), .val (.ref b33), .val (.ref b34), .unset] [(.int (1 : Int32)), (.ref b34), (.ref b33)]))
                    exact J352_41 _ (by simp only [if_pos hc344_57])
                  · skip
                    refine own_via (fun t k => XS.icmpYes X40.here hx rfl (pc0 := 344) (pc' := 351) rfl (hb hby at_344) rfl (flt hc344_57).2.1 (by decide) (by decide) k) ?_
                    show OwnEnds p.tables e below _ (T40.setTop (mkF m 351 #[.val (.int p0), .val (.int p1), .val (.int p2), .val (.ref b1), .val (.int wv), .val (.int ov), .val (.int fv), .val (.int tv0), .val (.ref gt), .val (.int x0), .val (.int x1), .val (.int x2), .val (.int x3), .val (.int mn), .val (.int mx), .val (.int tw), .val (.ref b33), .val (.ref b34), .unset] [(.ref b34), (.ref b33)]))
                    refine own_via (fun t k => XS.iconst X40.here hx rfl (hb hby at_351) k) ?_
                    show OwnEnds p.tables e below _ (T40.setTop (mkF m 352 #[.val (.int p0), .val (.int p1), .val (.int p2), .val (.ref b1), .val (.int wv), .val (.int ov), .val (.int fv), .val (.int tv0), .val (.ref gt), .val (.int x0), .val (.int x1), .val (.int x2), .val (.int x3), .val (.int mn), .val (.int mx), .val (.int tw), .val (.ref b33), .val (.ref b34), .unset] [(.int (0 : Int32)), (.ref b34), (.ref b33)]))
                    exact J352_41 _ (by simp only [if_neg hc344_57])
                by_cases hc319_58 : (1 : Int32) < fv
                · skip
                  refine own_via (fun t k => XS.icmpYes X37.here hx rfl (pc0 := 319) (pc' := 332) rfl (hb hby at_319) rfl (tlt hc319_58).2.2.1 (by decide) (by decide) k) ?_
                  show OwnEnds p.tables e below _ (T37.setTop (mkF m 332 #[.val (.int p0), .val (.int p1), .val (.int p2), .val (.ref b1), .val (.int wv), .val (.int ov), .val (.int fv), .val (.int tv0), .val (.ref gt), .val (.int x0), .val (.int x1), .val (.int x2), .val (.int x3), .val (.int mn), .val (.int mx), .val (.int tw), .val (.ref b33), .val (.ref b34), .unset] [(.int dk1), (.ref b34), (.ref b33)]))
                  refine own_via (fun t k => XS.iconst X37.here hx rfl (hb hby at_332) k) ?_
                  show OwnEnds p.tables e below _ (T37.setTop (mkF m 333 #[.val (.int p0), .val (.int p1), .val (.int p2), .val (.ref b1), .val (.int wv), .val (.int ov), .val (.int fv), .val (.int tv0), .val (.ref gt), .val (.int x0), .val (.int x1), .val (.int x2), .val (.int x3), .val (.int mn), .val (.int mx), .val (.int tw), .val (.ref b33), .val (.ref b34), .unset] [(.int (0 : Int32)), (.int dk1), (.ref b34), (.ref b33)]))
                  exact J333_39 _ (by simp only [if_pos hc319_58])
                · skip
                  refine own_via (fun t k => XS.icmpNo X37.here hx rfl (hb hby at_319) rfl (flt hc319_58).2.2.1 k) ?_
                  show OwnEnds p.tables e below _ (T37.setTop (mkF m 322 #[.val (.int p0), .val (.int p1), .val (.int p2), .val (.ref b1), .val (.int wv), .val (.int ov), .val (.int fv), .val (.int tv0), .val (.ref gt), .val (.int x0), .val (.int x1), .val (.int x2), .val (.int x3), .val (.int mn), .val (.int mx), .val (.int tw), .val (.ref b33), .val (.ref b34), .unset] [(.int dk1), (.ref b34), (.ref b33)]))
                  refine own_via (fun t k => XS.iconst X37.here hx rfl (hb hby at_322) k) ?_
                  show OwnEnds p.tables e below _ (T37.setTop (mkF m 323 #[.val (.int p0), .val (.int p1), .val (.int p2), .val (.ref b1), .val (.int wv), .val (.int ov), .val (.int fv), .val (.int tv0), .val (.ref gt), .val (.int x0), .val (.int x1), .val (.int x2), .val (.int x3), .val (.int mn), .val (.int mx), .val (.int tw), .val (.ref b33), .val (.ref b34), .unset] [(.int (1 : Int32)), (.int dk1), (.ref b34), (.ref b33)]))
                  refine own_via (fun t k => XS.iload X37.here hx rfl (hb hby at_323) rfl k) ?_
                  show OwnEnds p.tables e below _ (T37.setTop (mkF m 325 #[.val (.int p0), .val (.int p1), .val (.int p2), .val (.ref b1), .val (.int wv), .val (.int ov), .val (.int fv), .val (.int tv0), .val (.ref gt), .val (.int x0), .val (.int x1), .val (.int x2), .val (.int x3), .val (.int mn), .val (.int mx), .val (.int tw), .val (.ref b33), .val (.ref b34), .unset] [(.int tv0), (.int (1 : Int32)), (.int dk1), (.ref b34), (.ref b33)]))
                  by_cases hc325_59 : (1 : Int32) < tv0
                  · skip
                    refine own_via (fun t k => XS.icmpNo X37.here hx rfl (hb hby at_325) rfl (tlt hc325_59).2.1 k) ?_
                    show OwnEnds p.tables e below _ (T37.setTop (mkF m 328 #[.val (.int p0), .val (.int p1), .val (.int p2), .val (.ref b1), .val (.int wv), .val (.int ov), .val (.int fv), .val (.int tv0), .val (.ref gt), .val (.int x0), .val (.int x1), .val (.int x2), .val (.int x3), .val (.int mn), .val (.int mx), .val (.int tw), .val (.ref b33), .val (.ref b34), .unset] [(.int dk1), (.ref b34), (.ref b33)]))
                    refine own_via (fun t k => XS.iconst X37.here hx rfl (hb hby at_328) k) ?_
                    show OwnEnds p.tables e below _ (T37.setTop (mkF m 329 #[.val (.int p0), .val (.int p1), .val (.int p2), .val (.ref b1), .val (.int wv), .val (.int ov), .val (.int fv), .val (.int tv0), .val (.ref gt), .val (.int x0), .val (.int x1), .val (.int x2), .val (.int x3), .val (.int mn), .val (.int mx), .val (.int tw), .val (.ref b33), .val (.ref b34), .unset] [(.int (1 : Int32)), (.int dk1), (.ref b34), (.ref b33)]))
                    refine own_via (fun t k => XS.goto X37.here hx rfl (pc0 := 329) (pc' := 333) rfl (hb hby at_329) (by decide) (by decide) k) ?_
                    show OwnEnds p.tables e below _ (T37.setTop (mkF m 333 #[.val (.int p0), .val (.int p1), .val (.int p2), .val (.ref b1), .val (.int wv), .val (.int ov), .val (.int fv), .val (.int tv0), .val (.ref gt), .val (.int x0), .val (.int x1), .val (.int x2), .val (.int x3), .val (.int mn), .val (.int mx), .val (.int tw), .val (.ref b33), .val (.ref b34), .unset] [(.int (1 : Int32)), (.int dk1), (.ref b34), (.ref b33)]))
                    exact J333_39 _ (by simp only [if_neg hc319_58, if_pos hc325_59])
                  · skip
                    refine own_via (fun t k => XS.icmpYes X37.here hx rfl (pc0 := 325) (pc' := 332) rfl (hb hby at_325) rfl (flt hc325_59).2.1 (by decide) (by decide) k) ?_
                    show OwnEnds p.tables e below _ (T37.setTop (mkF m 332 #[.val (.int p0), .val (.int p1), .val (.int p2), .val (.ref b1), .val (.int wv), .val (.int ov), .val (.int fv), .val (.int tv0), .val (.ref gt), .val (.int x0), .val (.int x1), .val (.int x2), .val (.int x3), .val (.int mn), .val (.int mx), .val (.int tw), .val (.ref b33), .val (.ref b34), .unset] [(.int dk1), (.ref b34), (.ref b33)]))
                    refine own_via (fun t k => XS.iconst X37.here hx rfl (hb hby at_332) k) ?_
                    show OwnEnds p.tables e below _ (T37.setTop (mkF m 333 #[.val (.int p0), .val (.int p1), .val (.int p2), .val (.ref b1), .val (.int wv), .val (.int ov), .val (.int fv), .val (.int tv0), .val (.ref gt), .val (.int x0), .val (.int x1), .val (.int x2), .val (.int x3), .val (.int mn), .val (.int mx), .val (.int tw), .val (.ref b33), .val (.ref b34), .unset] [(.int (0 : Int32)), (.int dk1), (.ref b34), (.ref b33)]))
                    exact J333_39 _ (by simp only [if_neg hc319_58, if_neg hc325_59])
              by_cases hc308_60 : x1 < tw
              · skip
                refine own_via (fun t k => XS.icmpNo X37.here hx rfl (hb hby at_308) rfl (tlt hc308_60).2.1 k) ?_
                show OwnEnds p.tables e below _ (T37.setTop (mkF m 311 #[.val (.int p0), .val (.int p1), .val (.int p2), .val (.ref b1), .val (.int wv), .val (.int ov), .val (.int fv), .val (.int tv0), .val (.ref gt), .val (.int x0), .val (.int x1), .val (.int x2), .val (.int x3), .val (.int mn), .val (.int mx), .val (.int tw), .val (.ref b33), .val (.ref b34), .unset] [(.ref b34), (.ref b33)]))
                refine own_via (fun t k => XS.iconst X37.here hx rfl (hb hby at_311) k) ?_
                show OwnEnds p.tables e below _ (T37.setTop (mkF m 312 #[.val (.int p0), .val (.int p1), .val (.int p2), .val (.ref b1), .val (.int wv), .val (.int ov), .val (.int fv), .val (.int tv0), .val (.ref gt), .val (.int x0), .val (.int x1), .val (.int x2), .val (.int x3), .val (.int mn), .val (.int mx), .val (.int tw), .val (.ref b33), .val (.ref b34), .unset] [(.int (1 : Int32)), (.ref b34), (.ref b33)]))
                refine own_via (fun t k => XS.goto X37.here hx rfl (pc0 := 312) (pc' := 316) rfl (hb hby at_312) (by decide) (by decide) k) ?_
                show OwnEnds p.tables e below _ (T37.setTop (mkF m 316 #[.val (.int p0), .val (.int p1), .val (.int p2), .val (.ref b1), .val (.int wv), .val (.int ov), .val (.int fv), .val (.int tv0), .val (.ref gt), .val (.int x0), .val (.int x1), .val (.int x2), .val (.int x3), .val (.int mn), .val (.int mx), .val (.int tw), .val (.ref b33), .val (.ref b34), .unset] [(.int (1 : Int32)), (.ref b34), (.ref b33)]))
                exact J316_38 _ (by simp only [if_pos hc308_60])
              · skip
                refine own_via (fun t k => XS.icmpYes X37.here hx rfl (pc0 := 308) (pc' := 315) rfl (hb hby at_308) rfl (flt hc308_60).2.1 (by decide) (by decide) k) ?_
                show OwnEnds p.tables e below _ (T37.setTop (mkF m 315 #[.val (.int p0), .val (.int p1), .val (.int p2), .val (.ref b1), .val (.int wv), .val (.int ov), .val (.int fv), .val (.int tv0), .val (.ref gt), .val (.int x0), .val (.int x1), .val (.int x2), .val (.int x3), .val (.int mn), .val (.int mx), .val (.int tw), .val (.ref b33), .val (.ref b34), .unset] [(.ref b34), (.ref b33)]))
                refine own_via (fun t k => XS.iconst X37.here hx rfl (hb hby at_315) k) ?_
                show OwnEnds p.tables e below _ (T37.setTop (mkF m 316 #[.val (.int p0), .val (.int p1), .val (.int p2), .val (.ref b1), .val (.int wv), .val (.int ov), .val (.int fv), .val (.int tv0), .val (.ref gt), .val (.int x0), .val (.int x1), .val (.int x2), .val (.int x3), .val (.int mn), .val (.int mx), .val (.int tw), .val (.ref b33), .val (.ref b34), .unset] [(.int (0 : Int32)), (.ref b34), (.ref b33)]))
                exact J316_38 _ (by simp only [if_neg hc308_60])
            by_cases hc283_61 : (0 : Int32) < fv
            · skip
              refine own_via (fun t k => XS.ifYes X34.here hx rfl (pc0 := 283) (pc' := 296) rfl (hb hby at_283) rfl ((if0 _ _).trans (tlt hc283_61).2.2.1) (by decide) (by decide) k) ?_
              show OwnEnds p.tables e below _ (T34.setTop (mkF m 296 #[.val (.int p0), .val (.int p1), .val (.int p2), .val (.ref b1), .val (.int wv), .val (.int ov), .val (.int fv), .val (.int tv0), .val (.ref gt), .val (.int x0), .val (.int x1), .val (.int x2), .val (.int x3), .val (.int mn), .val (.int mx), .val (.int tw), .val (.ref b33), .val (.ref b34), .unset] [(.int dk0), (.ref b34), (.ref b33)]))
              refine own_via (fun t k => XS.iconst X34.here hx rfl (hb hby at_296) k) ?_
              show OwnEnds p.tables e below _ (T34.setTop (mkF m 297 #[.val (.int p0), .val (.int p1), .val (.int p2), .val (.ref b1), .val (.int wv), .val (.int ov), .val (.int fv), .val (.int tv0), .val (.ref gt), .val (.int x0), .val (.int x1), .val (.int x2), .val (.int x3), .val (.int mn), .val (.int mx), .val (.int tw), .val (.ref b33), .val (.ref b34), .unset] [(.int (0 : Int32)), (.int dk0), (.ref b34), (.ref b33)]))
              exact J297_36 _ (by simp only [if_pos hc283_61])
            · skip
              refine own_via (fun t k => XS.ifNo X34.here hx rfl (hb hby at_283) rfl ((if0 _ _).trans (flt hc283_61).2.2.1) k) ?_
              show OwnEnds p.tables e below _ (T34.setTop (mkF m 286 #[.val (.int p0), .val (.int p1), .val (.int p2), .val (.ref b1), .val (.int wv), .val (.int ov), .val (.int fv), .val (.int tv0), .val (.ref gt), .val (.int x0), .val (.int x1), .val (.int x2), .val (.int x3), .val (.int mn), .val (.int mx), .val (.int tw), .val (.ref b33), .val (.ref b34), .unset] [(.int dk0), (.ref b34), (.ref b33)]))
              refine own_via (fun t k => XS.iconst X34.here hx rfl (hb hby at_286) k) ?_
              show OwnEnds p.tables e below _ (T34.setTop (mkF m 287 #[.val (.int p0), .val (.int p1), .val (.int p2), .val (.ref b1), .val (.int wv), .val (.int ov), .val (.int fv), .val (.int tv0), .val (.ref gt), .val (.int x0), .val (.int x1), .val (.int x2), .val (.int x3), .val (.int mn), .val (.int mx), .val (.int tw), .val (.ref b33), .val (.ref b34), .unset] [(.int (0 : Int32)), (.int dk0), (.ref b34), (.ref b33)]))
              refine own_via (fun t k => XS.iload X34.here hx rfl (hb hby at_287) rfl k) ?_
              show OwnEnds p.tables e below _ (T34.setTop (mkF m 289 #[.val (.int p0), .val (.int p1), .val (.int p2), .val (.ref b1), .val (.int wv), .val (.int ov), .val (.int fv), .val (.int tv0), .val (.ref gt), .val (.int x0), .val (.int x1), .val (.int x2), .val (.int x3), .val (.int mn), .val (.int mx), .val (.int tw), .val (.ref b33), .val (.ref b34), .unset] [(.int tv0), (.int (0 : Int32)), (.int dk0), (.ref b34), (.ref b33)]))
              by_cases hc289_62 : (0 : Int32) < tv0
              · skip
                refine own_via (fun t k => XS.icmpNo X34.here hx rfl (hb hby at_289) rfl (tlt hc289_62).2.1 k) ?_
                show OwnEnds p.tables e below _ (T34.setTop (mkF m 292 #[.val (.int p0), .val (.int p1), .val (.int p2), .val (.ref b1), .val (.int wv), .val (.int ov), .val (.int fv), .val (.int tv0), .val (.ref gt), .val (.int x0), .val (.int x1), .val (.int x2), .val (.int x3), .val (.int mn), .val (.int mx), .val (.int tw), .val (.ref b33), .val (.ref b34), .unset] [(.int dk0), (.ref b34), (.ref b33)]))
                refine own_via (fun t k => XS.iconst X34.here hx rfl (hb hby at_292) k) ?_
                show OwnEnds p.tables e below _ (T34.setTop (mkF m 293 #[.val (.int p0), .val (.int p1), .val (.int p2), .val (.ref b1), .val (.int wv), .val (.int ov), .val (.int fv), .val (.int tv0), .val (.ref gt), .val (.int x0), .val (.int x1), .val (.int x2), .val (.int x3), .val (.int mn), .val (.int mx), .val (.int tw), .val (.ref b33), .val (.ref b34), .unset] [(.int (1 : Int32)), (.int dk0), (.ref b34), (.ref b33)]))
                refine own_via (fun t k => XS.goto X34.here hx rfl (pc0 := 293) (pc' := 297) rfl (hb hby at_293) (by decide) (by decide) k) ?_
                show OwnEnds p.tables e below _ (T34.setTop (mkF m 297 #[.val (.int p0), .val (.int p1), .val (.int p2), .val (.ref b1), .val (.int wv), .val (.int ov), .val (.int fv), .val (.int tv0), .val (.ref gt), .val (.int x0), .val (.int x1), .val (.int x2), .val (.int x3), .val (.int mn), .val (.int mx), .val (.int tw), .val (.ref b33), .val (.ref b34), .unset] [(.int (1 : Int32)), (.int dk0), (.ref b34), (.ref b33)]))
                exact J297_36 _ (by simp only [if_neg hc283_61, if_pos hc289_62])
              · skip
                refine own_via (fun t k => XS.icmpYes X34.here hx rfl (pc0 := 289) (pc' := 296) rfl (hb hby at_289) rfl (flt hc289_62).2.1 (by decide) (by decide) k) ?_
                show OwnEnds p.tables e below _ (T34.setTop (mkF m 296 #[.val (.int p0), .val (.int p1), .val (.int p2), .val (.ref b1), .val (.int wv), .val (.int ov), .val (.int fv), .val (.int tv0), .val (.ref gt), .val (.int x0), .val (.int x1), .val (.int x2), .val (.int x3), .val (.int mn), .val (.int mx), .val (.int tw), .val (.ref b33), .val (.ref b34), .unset] [(.int dk0), (.ref b34), (.ref b33)]))
                refine own_via (fun t k => XS.iconst X34.here hx rfl (hb hby at_296) k) ?_
                show OwnEnds p.tables e below _ (T34.setTop (mkF m 297 #[.val (.int p0), .val (.int p1), .val (.int p2), .val (.ref b1), .val (.int wv), .val (.int ov), .val (.int fv), .val (.int tv0), .val (.ref gt), .val (.int x0), .val (.int x1), .val (.int x2), .val (.int x3), .val (.int mn), .val (.int mx), .val (.int tw), .val (.ref b33), .val (.ref b34), .unset] [(.int (0 : Int32)), (.int dk0), (.ref b34), (.ref b33)]))
                exact J297_36 _ (by simp only [if_neg hc283_61, if_neg hc289_62])
          by_cases hc273_63 : x0 < tw
          · skip
            refine own_via (fun t k => XS.icmpNo X34.here hx rfl (hb hby at_273) rfl (tlt hc273_63).2.1 k) ?_
            show OwnEnds p.tables e below _ (T34.setTop (mkF m 276 #[.val (.int p0), .val (.int p1), .val (.int p2), .val (.ref b1), .val (.int wv), .val (.int ov), .val (.int fv), .val (.int tv0), .val (.ref gt), .val (.int x0), .val (.int x1), .val (.int x2), .val (.int x3), .val (.int mn), .val (.int mx), .val (.int tw), .val (.ref b33), .val (.ref b34), .unset] [(.ref b34), (.ref b33)]))
            refine own_via (fun t k => XS.iconst X34.here hx rfl (hb hby at_276) k) ?_
            show OwnEnds p.tables e below _ (T34.setTop (mkF m 277 #[.val (.int p0), .val (.int p1), .val (.int p2), .val (.ref b1), .val (.int wv), .val (.int ov), .val (.int fv), .val (.int tv0), .val (.ref gt), .val (.int x0), .val (.int x1), .val (.int x2), .val (.int x3), .val (.int mn), .val (.int mx), .val (.int tw), .val (.ref b33), .val (.ref b34), .unset] [(.int (1 : Int32)), (.ref b34), (.ref b33)]))
            refine own_via (fun t k => XS.goto X34.here hx rfl (pc0 := 277) (pc' := 281) rfl (hb hby at_277) (by decide) (by decide) k) ?_
            show OwnEnds p.tables e below _ (T34.setTop (mkF m 281 #[.val (.int p0), .val (.int p1), .val (.int p2), .val (.ref b1), .val (.int wv), .val (.int ov), .val (.int fv), .val (.int tv0), .val (.ref gt), .val (.int x0), .val (.int x1), .val (.int x2), .val (.int x3), .val (.int mn), .val (.int mx), .val (.int tw), .val (.ref b33), .val (.ref b34), .unset] [(.int (1 : Int32)), (.ref b34), (.ref b33)]))
            exact J281_35 _ (by simp only [if_pos hc273_63])
          · skip
            refine own_via (fun t k => XS.icmpYes X34.here hx rfl (pc0 := 273) (pc' := 280) rfl (hb hby at_273) rfl (flt hc273_63).2.1 (by decide) (by decide) k) ?_
            show OwnEnds p.tables e below _ (T34.setTop (mkF m 280 #[.val (.int p0), .val (.int p1), .val (.int p2), .val (.ref b1), .val (.int wv), .val (.int ov), .val (.int fv), .val (.int tv0), .val (.ref gt), .val (.int x0), .val (.int x1), .val (.int x2), .val (.int x3), .val (.int mn), .val (.int mx), .val (.int tw), .val (.ref b33), .val (.ref b34), .unset] [(.ref b34), (.ref b33)]))
            refine own_via (fun t k => XS.iconst X34.here hx rfl (hb hby at_280) k) ?_
            show OwnEnds p.tables e below _ (T34.setTop (mkF m 281 #[.val (.int p0), .val (.int p1), .val (.int p2), .val (.ref b1), .val (.int wv), .val (.int ov), .val (.int fv), .val (.int tv0), .val (.ref gt), .val (.int x0), .val (.int x1), .val (.int x2), .val (.int x3), .val (.int mn), .val (.int mx), .val (.int tw), .val (.ref b33), .val (.ref b34), .unset] [(.int (0 : Int32)), (.ref b34), (.ref b33)]))
            exact J281_35 _ (by simp only [if_neg hc273_63])
        by_cases hc163_64 : (3 : Int32) < wv
        · skip
          refine own_via (fun t k => XS.icmpNo X22.here hx rfl (hb hby at_163) rfl (tlt hc163_64).2.2.2 k) ?_
          show OwnEnds p.tables e below _ (T22.setTop (mkF m 166 #[.val (.int p0), .val (.int p1), .val (.int p2), .val (.ref b1), .val (.int wv), .val (.int ov), .val (.int fv), .val (.int tv0), .val (.ref gt), .val (.int x0), .val (.int x1), .val (.int x2), .unset, .unset, .unset, .unset, .unset, .unset, .unset] []))
          refine own_via (fun t k => XS.aloadN X22.here hx rfl (hb hby at_166) rfl rfl k) ?_
          show OwnEnds p.tables e below _ (T22.setTop (mkF m 167 #[.val (.int p0), .val (.int p1), .val (.int p2), .val (.ref b1), .val (.int wv), .val (.int ov), .val (.int fv), .val (.int tv0), .val (.ref gt), .val (.int x0), .val (.int x1), .val (.int x2), .unset, .unset, .unset, .unset, .unset, .unset, .unset] [(.ref b1)]))
          refine own_via (fun t k => XS.iload X22.here hx rfl (hb hby at_167) rfl k) ?_
          show OwnEnds p.tables e below _ (T22.setTop (mkF m 169 #[.val (.int p0), .val (.int p1), .val (.int p2), .val (.ref b1), .val (.int wv), .val (.int ov), .val (.int fv), .val (.int tv0), .val (.ref gt), .val (.int x0), .val (.int x1), .val (.int x2), .unset, .unset, .unset, .unset, .unset, .unset, .unset] [(.int ov), (.ref b1)]))
          refine own_via (fun t k => XS.iconst X22.here hx rfl (hb hby at_169) k) ?_
          show OwnEnds p.tables e below _ (T22.setTop (mkF m 170 #[.val (.int p0), .val (.int p1), .val (.int p2), .val (.ref b1), .val (.int wv), .val (.int ov), .val (.int fv), .val (.int tv0), .val (.ref gt), .val (.int x0), .val (.int x1), .val (.int x2), .unset, .unset, .unset, .unset, .unset, .unset, .unset] [(.int (3 : Int32)), (.int ov), (.ref b1)]))
          refine own_via (fun t k => XS.iadd X22.here hx rfl (hb hby at_170) rfl k) ?_
          show OwnEnds p.tables e below _ (T22.setTop (mkF m 171 #[.val (.int p0), .val (.int p1), .val (.int p2), .val (.ref b1), .val (.int wv), .val (.int ov), .val (.int fv), .val (.int tv0), .val (.ref gt), .val (.int x0), .val (.int x1), .val (.int x2), .unset, .unset, .unset, .unset, .unset, .unset, .unset] [(.int (ov + (3 : Int32))), (.ref b1)]))
          refine own_via (own_ldB X22 hx hZ e22 A_b1 (v := (.int (ys.getD (k + 3) 0))) (k + 3) (own_addi (b := 3) hk rfl (by omega)) (own_iv_get (by have := own_lN (a := 3) hc163_64 rfl hwd; omega)) (g := (mkF m 171 #[.val (.int p0), .val (.int p1), .val (.int p2), .val (.ref b1), .val (.int wv), .val (.int ov), .val (.int fv), .val (.int tv0), .val (.ref gt), .val (.int x0), .val (.int x1), .val (.int x2), .unset, .unset, .unset, .unset, .unset, .unset, .unset] [(.int (ov + (3 : Int32))), (.ref b1)])) rfl rfl (hb hby at_171)) ?_
          show OwnEnds p.tables e below _ (T22.setTop (mkF m 172 #[.val (.int p0), .val (.int p1), .val (.int p2), .val (.ref b1), .val (.int wv), .val (.int ov), .val (.int fv), .val (.int tv0), .val (.ref gt), .val (.int x0), .val (.int x1), .val (.int x2), .unset, .unset, .unset, .unset, .unset, .unset, .unset] [(.int (ys.getD (k + 3) 0))]))
          refine own_via (fun t k => XS.sipush X22.here hx rfl (hb hby at_172) k) ?_
          show OwnEnds p.tables e below _ (T22.setTop (mkF m 175 #[.val (.int p0), .val (.int p1), .val (.int p2), .val (.ref b1), .val (.int wv), .val (.int ov), .val (.int fv), .val (.int tv0), .val (.ref gt), .val (.int x0), .val (.int x1), .val (.int x2), .unset, .unset, .unset, .unset, .unset, .unset, .unset] [(.int (255 : Int32)), (.int (ys.getD (k + 3) 0))]))
          refine own_via (fun t k => XS.iand X22.here hx rfl (hb hby at_175) rfl k) ?_
          show OwnEnds p.tables e below _ (T22.setTop (mkF m 176 #[.val (.int p0), .val (.int p1), .val (.int p2), .val (.ref b1), .val (.int wv), .val (.int ov), .val (.int fv), .val (.int tv0), .val (.ref gt), .val (.int x0), .val (.int x1), .val (.int x2), .unset, .unset, .unset, .unset, .unset, .unset, .unset] [(.int ((ys.getD (k + 3) 0) &&& (255 : Int32)))]))
          refine own_via (fun t k => XS.goto X22.here hx rfl (pc0 := 176) (pc' := 181) rfl (hb hby at_176) (by decide) (by decide) k) ?_
          show OwnEnds p.tables e below _ (T22.setTop (mkF m 181 #[.val (.int p0), .val (.int p1), .val (.int p2), .val (.ref b1), .val (.int wv), .val (.int ov), .val (.int fv), .val (.int tv0), .val (.ref gt), .val (.int x0), .val (.int x1), .val (.int x2), .unset, .unset, .unset, .unset, .unset, .unset, .unset] [(.int ((ys.getD (k + 3) 0) &&& (255 : Int32)))]))
          exact J181_25 _ (by simp only [if_pos hc163_64])
        · skip
          refine own_via (fun t k => XS.icmpYes X22.here hx rfl (pc0 := 163) (pc' := 179) rfl (hb hby at_163) rfl (flt hc163_64).2.2.2 (by decide) (by decide) k) ?_
          show OwnEnds p.tables e below _ (T22.setTop (mkF m 179 #[.val (.int p0), .val (.int p1), .val (.int p2), .val (.ref b1), .val (.int wv), .val (.int ov), .val (.int fv), .val (.int tv0), .val (.ref gt), .val (.int x0), .val (.int x1), .val (.int x2), .unset, .unset, .unset, .unset, .unset, .unset, .unset] []))
          refine own_via (fun t k => XS.iload X22.here hx rfl (hb hby at_179) rfl k) ?_
          show OwnEnds p.tables e below _ (T22.setTop (mkF m 181 #[.val (.int p0), .val (.int p1), .val (.int p2), .val (.ref b1), .val (.int wv), .val (.int ov), .val (.int fv), .val (.int tv0), .val (.ref gt), .val (.int x0), .val (.int x1), .val (.int x2), .unset, .unset, .unset, .unset, .unset, .unset, .unset] [(.int x0)]))
          exact J181_25 _ (by simp only [if_neg hc163_64])
      by_cases hc140_65 : (2 : Int32) < wv
      · skip
        refine own_via (fun t k => XS.icmpNo X22.here hx rfl (hb hby at_140) rfl (tlt hc140_65).2.2.2 k) ?_
        show OwnEnds p.tables e below _ (T22.setTop (mkF m 143 #[.val (.int p0), .val (.int p1), .val (.int p2), .val (.ref b1), .val (.int wv), .val (.int ov), .val (.int fv), .val (.int tv0), .val (.ref gt), .val (.int x0), .val (.int x1), .unset, .unset, .unset, .unset, .unset, .unset, .unset, .unset] []))
        refine own_via (fun t k => XS.aloadN X22.here hx rfl (hb hby at_143) rfl rfl k) ?_
        show OwnEnds p.tables e below _ (T22.setTop (mkF m 144 #[.val (.int p0), .val (.int p1), .val (.int p2), .val (.ref b1), .val (.int wv), .val (.int ov), .val (.int fv), .val (.int tv0), .val (.ref gt), .val (.int x0), .val (.int x1), .unset, .unset, .unset, .unset, .unset, .unset, .unset, .unset] [(.ref b1)]))
        refine own_via (fun t k => XS.iload X22.here hx rfl (hb hby at_144) rfl k) ?_
        show OwnEnds p.tables e below _ (T22.setTop (mkF m 146 #[.val (.int p0), .val (.int p1), .val (.int p2), .val (.ref b1), .val (.int wv), .val (.int ov), .val (.int fv), .val (.int tv0), .val (.ref gt), .val (.int x0), .val (.int x1), .unset, .unset, .unset, .unset, .unset, .unset, .unset, .unset] [(.int ov), (.ref b1)]))
        refine own_via (fun t k => XS.iconst X22.here hx rfl (hb hby at_146) k) ?_
        show OwnEnds p.tables e below _ (T22.setTop (mkF m 147 #[.val (.int p0), .val (.int p1), .val (.int p2), .val (.ref b1), .val (.int wv), .val (.int ov), .val (.int fv), .val (.int tv0), .val (.ref gt), .val (.int x0), .val (.int x1), .unset, .unset, .unset, .unset, .unset, .unset, .unset, .unset] [(.int (2 : Int32)), (.int ov), (.ref b1)]))
        refine own_via (fun t k => XS.iadd X22.here hx rfl (hb hby at_147) rfl k) ?_
        show OwnEnds p.tables e below _ (T22.setTop (mkF m 148 #[.val (.int p0), .val (.int p1), .val (.int p2), .val (.ref b1), .val (.int wv), .val (.int ov), .val (.int fv), .val (.int tv0), .val (.ref gt), .val (.int x0), .val (.int x1), .unset, .unset, .unset, .unset, .unset, .unset, .unset, .unset] [(.int (ov + (2 : Int32))), (.ref b1)]))
        refine own_via (own_ldB X22 hx hZ e22 A_b1 (v := (.int (ys.getD (k + 2) 0))) (k + 2) (own_addi (b := 2) hk rfl (by omega)) (own_iv_get (by have := own_lN (a := 2) hc140_65 rfl hwd; omega)) (g := (mkF m 148 #[.val (.int p0), .val (.int p1), .val (.int p2), .val (.ref b1), .val (.int wv), .val (.int ov), .val (.int fv), .val (.int tv0), .val (.ref gt), .val (.int x0), .val (.int x1), .unset, .unset, .unset, .unset, .unset, .unset, .unset, .unset] [(.int (ov + (2 : Int32))), (.ref b1)])) rfl rfl (hb hby at_148)) ?_
        show OwnEnds p.tables e below _ (T22.setTop (mkF m 149 #[.val (.int p0), .val (.int p1), .val (.int p2), .val (.ref b1), .val (.int wv), .val (.int ov), .val (.int fv), .val (.int tv0), .val (.ref gt), .val (.int x0), .val (.int x1), .unset, .unset, .unset, .unset, .unset, .unset, .unset, .unset] [(.int (ys.getD (k + 2) 0))]))
        refine own_via (fun t k => XS.sipush X22.here hx rfl (hb hby at_149) k) ?_
        show OwnEnds p.tables e below _ (T22.setTop (mkF m 152 #[.val (.int p0), .val (.int p1), .val (.int p2), .val (.ref b1), .val (.int wv), .val (.int ov), .val (.int fv), .val (.int tv0), .val (.ref gt), .val (.int x0), .val (.int x1), .unset, .unset, .unset, .unset, .unset, .unset, .unset, .unset] [(.int (255 : Int32)), (.int (ys.getD (k + 2) 0))]))
        refine own_via (fun t k => XS.iand X22.here hx rfl (hb hby at_152) rfl k) ?_
        show OwnEnds p.tables e below _ (T22.setTop (mkF m 153 #[.val (.int p0), .val (.int p1), .val (.int p2), .val (.ref b1), .val (.int wv), .val (.int ov), .val (.int fv), .val (.int tv0), .val (.ref gt), .val (.int x0), .val (.int x1), .unset, .unset, .unset, .unset, .unset, .unset, .unset, .unset] [(.int ((ys.getD (k + 2) 0) &&& (255 : Int32)))]))
        refine own_via (fun t k => XS.goto X22.here hx rfl (pc0 := 153) (pc' := 158) rfl (hb hby at_153) (by decide) (by decide) k) ?_
        show OwnEnds p.tables e below _ (T22.setTop (mkF m 158 #[.val (.int p0), .val (.int p1), .val (.int p2), .val (.ref b1), .val (.int wv), .val (.int ov), .val (.int fv), .val (.int tv0), .val (.ref gt), .val (.int x0), .val (.int x1), .unset, .unset, .unset, .unset, .unset, .unset, .unset, .unset] [(.int ((ys.getD (k + 2) 0) &&& (255 : Int32)))]))
        exact J158_24 _ (by simp only [if_pos hc140_65])
      · skip
        refine own_via (fun t k => XS.icmpYes X22.here hx rfl (pc0 := 140) (pc' := 156) rfl (hb hby at_140) rfl (flt hc140_65).2.2.2 (by decide) (by decide) k) ?_
        show OwnEnds p.tables e below _ (T22.setTop (mkF m 156 #[.val (.int p0), .val (.int p1), .val (.int p2), .val (.ref b1), .val (.int wv), .val (.int ov), .val (.int fv), .val (.int tv0), .val (.ref gt), .val (.int x0), .val (.int x1), .unset, .unset, .unset, .unset, .unset, .unset, .unset, .unset] []))
        refine own_via (fun t k => XS.iload X22.here hx rfl (hb hby at_156) rfl k) ?_
        show OwnEnds p.tables e below _ (T22.setTop (mkF m 158 #[.val (.int p0), .val (.int p1), .val (.int p2), .val (.ref b1), .val (.int wv), .val (.int ov), .val (.int fv), .val (.int tv0), .val (.ref gt), .val (.int x0), .val (.int x1), .unset, .unset, .unset, .unset, .unset, .unset, .unset, .unset] [(.int x0)]))
        exact J158_24 _ (by simp only [if_neg hc140_65])
    by_cases hc117_66 : (1 : Int32) < wv
    · skip
      refine own_via (fun t k => XS.icmpNo X22.here hx rfl (hb hby at_117) rfl (tlt hc117_66).2.2.2 k) ?_
      show OwnEnds p.tables e below _ (T22.setTop (mkF m 120 #[.val (.int p0), .val (.int p1), .val (.int p2), .val (.ref b1), .val (.int wv), .val (.int ov), .val (.int fv), .val (.int tv0), .val (.ref gt), .val (.int x0), .unset, .unset, .unset, .unset, .unset, .unset, .unset, .unset, .unset] []))
      refine own_via (fun t k => XS.aloadN X22.here hx rfl (hb hby at_120) rfl rfl k) ?_
      show OwnEnds p.tables e below _ (T22.setTop (mkF m 121 #[.val (.int p0), .val (.int p1), .val (.int p2), .val (.ref b1), .val (.int wv), .val (.int ov), .val (.int fv), .val (.int tv0), .val (.ref gt), .val (.int x0), .unset, .unset, .unset, .unset, .unset, .unset, .unset, .unset, .unset] [(.ref b1)]))
      refine own_via (fun t k => XS.iload X22.here hx rfl (hb hby at_121) rfl k) ?_
      show OwnEnds p.tables e below _ (T22.setTop (mkF m 123 #[.val (.int p0), .val (.int p1), .val (.int p2), .val (.ref b1), .val (.int wv), .val (.int ov), .val (.int fv), .val (.int tv0), .val (.ref gt), .val (.int x0), .unset, .unset, .unset, .unset, .unset, .unset, .unset, .unset, .unset] [(.int ov), (.ref b1)]))
      refine own_via (fun t k => XS.iconst X22.here hx rfl (hb hby at_123) k) ?_
      show OwnEnds p.tables e below _ (T22.setTop (mkF m 124 #[.val (.int p0), .val (.int p1), .val (.int p2), .val (.ref b1), .val (.int wv), .val (.int ov), .val (.int fv), .val (.int tv0), .val (.ref gt), .val (.int x0), .unset, .unset, .unset, .unset, .unset, .unset, .unset, .unset, .unset] [(.int (1 : Int32)), (.int ov), (.ref b1)]))
      refine own_via (fun t k => XS.iadd X22.here hx rfl (hb hby at_124) rfl k) ?_
      show OwnEnds p.tables e below _ (T22.setTop (mkF m 125 #[.val (.int p0), .val (.int p1), .val (.int p2), .val (.ref b1), .val (.int wv), .val (.int ov), .val (.int fv), .val (.int tv0), .val (.ref gt), .val (.int x0), .unset, .unset, .unset, .unset, .unset, .unset, .unset, .unset, .unset] [(.int (ov + (1 : Int32))), (.ref b1)]))
      refine own_via (own_ldB X22 hx hZ e22 A_b1 (v := (.int (ys.getD (k + 1) 0))) (k + 1) (own_addi (b := 1) hk rfl (by omega)) (own_iv_get (by have := own_lN (a := 1) hc117_66 rfl hwd; omega)) (g := (mkF m 125 #[.val (.int p0), .val (.int p1), .val (.int p2), .val (.ref b1), .val (.int wv), .val (.int ov), .val (.int fv), .val (.int tv0), .val (.ref gt), .val (.int x0), .unset, .unset, .unset, .unset, .unset, .unset, .unset, .unset, .unset] [(.int (ov + (1 : Int32))), (.ref b1)])) rfl rfl (hb hby at_125)) ?_
      show OwnEnds p.tables e below _ (T22.setTop (mkF m 126 #[.val (.int p0), .val (.int p1), .val (.int p2), .val (.ref b1), .val (.int wv), .val (.int ov), .val (.int fv), .val (.int tv0), .val (.ref gt), .val (.int x0), .unset, .unset, .unset, .unset, .unset, .unset, .unset, .unset, .unset] [(.int (ys.getD (k + 1) 0))]))
      refine own_via (fun t k => XS.sipush X22.here hx rfl (hb hby at_126) k) ?_
      show OwnEnds p.tables e below _ (T22.setTop (mkF m 129 #[.val (.int p0), .val (.int p1), .val (.int p2), .val (.ref b1), .val (.int wv), .val (.int ov), .val (.int fv), .val (.int tv0), .val (.ref gt), .val (.int x0), .unset, .unset, .unset, .unset, .unset, .unset, .unset, .unset, .unset] [(.int (255 : Int32)), (.int (ys.getD (k + 1) 0))]))
      refine own_via (fun t k => XS.iand X22.here hx rfl (hb hby at_129) rfl k) ?_
      show OwnEnds p.tables e below _ (T22.setTop (mkF m 130 #[.val (.int p0), .val (.int p1), .val (.int p2), .val (.ref b1), .val (.int wv), .val (.int ov), .val (.int fv), .val (.int tv0), .val (.ref gt), .val (.int x0), .unset, .unset, .unset, .unset, .unset, .unset, .unset, .unset, .unset] [(.int ((ys.getD (k + 1) 0) &&& (255 : Int32)))]))
      refine own_via (fun t k => XS.goto X22.here hx rfl (pc0 := 130) (pc' := 135) rfl (hb hby at_130) (by decide) (by decide) k) ?_
      show OwnEnds p.tables e below _ (T22.setTop (mkF m 135 #[.val (.int p0), .val (.int p1), .val (.int p2), .val (.ref b1), .val (.int wv), .val (.int ov), .val (.int fv), .val (.int tv0), .val (.ref gt), .val (.int x0), .unset, .unset, .unset, .unset, .unset, .unset, .unset, .unset, .unset] [(.int ((ys.getD (k + 1) 0) &&& (255 : Int32)))]))
      exact J135_23 _ (by simp only [if_pos hc117_66])
    · skip
      refine own_via (fun t k => XS.icmpYes X22.here hx rfl (pc0 := 117) (pc' := 133) rfl (hb hby at_117) rfl (flt hc117_66).2.2.2 (by decide) (by decide) k) ?_
      show OwnEnds p.tables e below _ (T22.setTop (mkF m 133 #[.val (.int p0), .val (.int p1), .val (.int p2), .val (.ref b1), .val (.int wv), .val (.int ov), .val (.int fv), .val (.int tv0), .val (.ref gt), .val (.int x0), .unset, .unset, .unset, .unset, .unset, .unset, .unset, .unset, .unset] []))
      refine own_via (fun t k => XS.iload X22.here hx rfl (hb hby at_133) rfl k) ?_
      show OwnEnds p.tables e below _ (T22.setTop (mkF m 135 #[.val (.int p0), .val (.int p1), .val (.int p2), .val (.ref b1), .val (.int wv), .val (.int ov), .val (.int fv), .val (.int tv0), .val (.ref gt), .val (.int x0), .unset, .unset, .unset, .unset, .unset, .unset, .unset, .unset, .unset] [(.int x0)]))
      exact J135_23 _ (by simp only [if_neg hc117_66])
theorem own_zero {s : State} {args : Array Value} {t : Term} {a : Addr} {cl : Cell} (ev : t.eval args s none [] s = some (.ref a)) (A : Arr s s.heap a cl .int) (h : (Cond.eq (Term.length t) (Term.int (0 : Int32))).value args s none s [] = some true) : cl.slots.toList = [] := by
  cases hl : (Term.length t).eval args s none [] s with
  | none => simp [Cond.value, hl] at h
  | some v =>
    obtain ⟨b, cell, q1, q2, q3, rfl⟩ := length_spec hl
    have e1 := Option.some.inj (q1.symm.trans ev)
    cases e1
    have q4 := gotT (Cond.eq_ints hl (Term.int_eval (0))) h
    have q5 : cell.slots.size = 0 := (toInt32_eq_zero q3).mp q4
    have q6 : cell = cl := by
      unfold State.arrayAt? at q2
      rw [A.1] at q2
      simp only [Option.bind_eq_bind, Option.bind_some] at q2
      cases hk : s.vm.classes[cl.cls]? with
      | none => simp [hk] at q2
      | some kk =>
        simp only [hk, Option.bind_some] at q2
        split at q2
        · cases q2
        · split at q2 <;> first | exact (Option.some.inj q2).symm | cases q2
    rw [← q6]
    exact List.eq_nil_of_length_eq_zero (by rw [Array.length_toList]; exact q5)
set_option maxRecDepth 65536 in
set_option maxHeartbeats 40000000 in
theorem comes_1 {Post : Tables → Env → Array Value → State → Outcome → State → Prop} (hpost : ∀ tb e args s v u, (limb_1_1.after args s (.returned v) u = true ∧ limb_1_2.after args s (.returned v) u = true ∧ True) → FrameEnd s (.returned v) u (Jvm.fieldLocs frame_1_writes args s ++ Jvm.arrayLocs frame_1_arrays args s ++ Jvm.staticLocs frame_1_statics s) 24 128 → Post tb e args s (.returned v) u) :
    ArmFor flags0 classFile x code maxLocals ret World_1 tables_1 room_1 Calls_1 rest_1 Pre_1 Post := by
  intro l hfl _ _ p e ha hc hk s m args below hf hA hF happ hP
  obtain ⟨hcalls, hrest, hpre⟩ := hP
  obtain ⟨-, -, -, hnamed, -, -, -, hat⟩ := (Spec.applies_iff hf).mp happ
  obtain ⟨hg, hn⟩ := and_e (Cond.before_iff.mp (show (Jvm.Cond.and given_1 narrow_1).before args s = true from hpre))
  obtain ⟨hq0, hg0⟩ := and_e hg
  obtain ⟨hq1, hg1⟩ := and_e hg0
  obtain ⟨hq2, hg2⟩ := and_e hg1
  obtain ⟨w0, w1, w2, rfl⟩ : ∃ w0 w1 w2 : Value, args = #[w0, w1, w2] := by
    have hs : args.size = 3 := by simpa [Cond.value, given_1] using hq0
    obtain ⟨L⟩ := args
    match L, hs with
    | [w0, w1, w2], _ => exact ⟨w0, w1, w2, rfl⟩
  have hw := fun d (hd : d ∈ tables_1) => atoms_spec (ws := Jvm.Cond.code x code maxLocals ret :: tables_1) hat d (List.mem_cons_of_mem _ hd)
  have hfit : Fit s := fun {y c} hc i hi => by
    obtain ⟨ha, rfl⟩ := Array.getElem?_eq_some_iff.mp hc
    have q := List.all_eq_true.mp ((Array.all_eq_true_iff_forall_mem.mp hF) _ (Array.getElem_mem ha)) i (List.mem_range.mpr hi)
    simpa [Array.getElem?_eq_getElem hi] using q
  obtain ⟨i0, ei0⟩ := is_v hq1
  obtain rfl : w0 = (.int i0) := Option.some.inj ei0
  obtain ⟨i1, ei1⟩ := is_v hq2
  obtain rfl : w1 = (.int i1) := Option.some.inj ei1
  obtain ⟨i2, ei2⟩ := is_v hg2
  obtain rfl : w2 = (.int i2) := Option.some.inj ei2
  obtain ⟨hna, hnl⟩ := and_e hn
  obtain ⟨na, ena⟩ := arr_v hna
  have S_ne : Sta s s.heap "com/example/shelfmark/shelfmark/Scanline" "NO_ELEMENTS" "[I" (.ref na) := Sta.start ena (Or.inr ⟨(hw _ (List.mem_of_getElem? (i := 3) rfl)), (hw _ (List.mem_of_getElem? (i := 6) rfl))⟩)
  obtain ⟨cna, Ana⟩ := Arr.start ena hna
  have A_na : AL s s.heap na .int [] := ⟨cna, Ana, own_zero ena Ana hnl, by decide⟩
  obtain ⟨n, o, h1, h2, h3, _, L, rfl, ⟨rfl, N⟩, hq⟩ := rm0 l s _ hw tables_1 i0 i1 i2 na s.heap s.heap.size (Nat.le_refl _) S_ne A_na (Old.start s) p e ha hc hk s m _ below hf ((Spec.applies_iff_loose hf).mp happ).1 ⟨rfl, State.Warmed39.refl s, rfl⟩ trivial
  refine ⟨n, _, h1, h2, h3, hpost _ _ _ _ _ _ ⟨Cond.after_iff.mpr rfl, Cond.after_iff.mpr (eq_i res_at (Term.int_eval (1)) rfl), trivial⟩ ⟨hq.1, hq.2.1, (hq.2.2.sift fun y hy => Or.inr (N y hy)).mono (by decide) (by decide)⟩⟩
theorem main_1_1 : Claimed_1_1 := comes_1 fun _ _ _ _ _ _ h hF => ⟨h.1, hF⟩
theorem main_1_2 : Claimed_1_2 := comes_1 fun _ _ _ _ _ _ h hF => ⟨h.2.1, hF⟩
end Jvm.Pilot.@@N@@
namespace Jvm.Pilot.@@N@@
open Jvm Jvm.ClassFile Sem Op Lib Jvm.Free Jvm.Stand Jvm.Pilot.@@N@@.Jvm.D
/-! MADE BY PROGRAM (witnessworld.py) out of the Statement's table words and the real class files: 12 classes; the members and pool entries that the words name. The judged class is class 1, her method 1. -/
namespace start1
open Jvm.ClassFile
def u (s : String) : CpInfo := .utf8 (stringToUtf16 s)
/-- a pool by its gaps: so many unusable entries, then the entry; so many at the end -/
def gap : Nat → List CpInfo → List CpInfo
  | 0, r => r
  | n + 1, r => .unusable :: gap n r
def poolList (es : List (Nat × CpInfo)) (last : Nat) : List CpInfo := es.foldr (fun e r => gap e.1 (e.2 :: r)) (gap last [])
def pool (es : List (Nat × CpInfo)) (last : Nat) : Array CpInfo := ⟨poolList es last⟩
def fileOf (pool : Array CpInfo) (this : Nat) (attrs : Array Attribute := #[]) (ms : Array MethodInfo := #[]) (fl : Nat := 33) (sup : Nat := 0) (ifs : Array Nat := #[]) (fds : Array FieldInfo := #[]) : ClassFile where
  minorVersion := 0
  majorVersion := 65
  constantPool := pool
  accessFlags := fl
  thisClass := this
  superClass := sup
  interfaces := ifs
  fields := fds
  methods := ms
  attributes := attrs
def plain (name : String) (sup : Option ClassId) : Class where
  name := name
  kind := .ordinary
  loader := none
  accessFlags := 33
  super := sup
  interfaces := #[]
  cf := none
  fields := #[]
  methods := #[]
  instanceTypes := #[]
  staticTypes := #[]
  resolved := #[]
  callSites := []
  init := .initialized
  statics := none
  mirror := none

def pool0 : Array CpInfo := pool [(5, u "<init>"), (0, u "()V"), (1, .class_ 10), (1, u "java/lang/Object"), (85, u "clone"), (0, u "()Ljava/lang/Object;")] 26

def k0m0 : Method := { name := "<init>", desc := "()V", sig := { parameters := [], returnType := none }, accessFlags := 1, code := none }
def k0m1 : Method := { name := "clone", desc := "()Ljava/lang/Object;", sig := { parameters := [], returnType := some (.object "java/lang/Object") }, accessFlags := 260, code := none }
/-- java/lang/Object -/
def k0 : Class := { plain "java/lang/Object" none with
  accessFlags := 33
  interfaces := #[]
  cf := some (fileOf pool0 8 #[] #[{ accessFlags := 1, nameIndex := 5, descriptorIndex := 6, attributes := #[] }, { accessFlags := 260, nameIndex := 96, descriptorIndex := 97, attributes := #[] }] 33 0 #[] #[])
  fields := #[]
  methods := #[k0m0, k0m1]
  instanceTypes := #[]
  staticTypes := #[]
  resolved := Array.replicate 124 none
  statics := none }

def pool1 : Array CpInfo := pool [(2, .class_ 4), (1, u "java/lang/Object"), (0, u "<init>"), (0, u "()V"), (0, .methodref 8 9), (0, .class_ 10), (0, .nameAndType 11 12), (0, u "com/example/shelfmark/shelfmark/Scanline"), (0, u "elements"), (0, u "([BIIII)[I"), (0, .methodref 14 15), (0, .class_ 16), (0, .nameAndType 17 18), (0, u "java/lang/Math"), (0, u "min"), (0, u "(II)I"), (0, .methodref 14 20), (0, .nameAndType 21 18), (0, u "max"), (0, .methodref 23 24), (0, .class_ 25), (0, .nameAndType 26 27), (0, u "com/example/shelfmark/shelfmark/ScanlineElementsPinLaw"), (0, u "push"), (0, u "([I[IZZ)V"), (0, .methodref 23 29), (0, .nameAndType 30 31), (0, u "same"), (0, u "([I[II)Z"), (2, u "law"), (0, u "(III)Z")] 7

def k1m0 : Method := { name := "<init>", desc := "()V", sig := { parameters := [], returnType := none }, accessFlags := 1, code := none }
def k1c1 : Code := { maxStack := 5, maxLocals := 19, code := code, exceptionTable := #[], attributes := #[] }
def k1m1 : Method := { name := "law", desc := "(III)Z", sig := { parameters := [.int, .int, .int], returnType := some .boolean }, accessFlags := 9, code := some k1c1 }
def k1c2 : Code := { maxStack := 5, maxLocals := 5, code := method_3_code, exceptionTable := #[], attributes := #[] }
def k1m2 : Method := { name := "push", desc := "([I[IZZ)V", sig := { parameters := [(.array .int), (.array .int), .boolean, .boolean], returnType := none }, accessFlags := 10, code := some k1c2 }
def k1c3 : Code := { maxStack := 3, maxLocals := 3, code := method_4_code, exceptionTable := #[], attributes := #[] }
def k1m3 : Method := { name := "same", desc := "([I[II)Z", sig := { parameters := [(.array .int), (.array .int), .int], returnType := some .boolean }, accessFlags := 10, code := some k1c3 }
/-- com/example/shelfmark/shelfmark/ScanlineElementsPinLaw -/
def k1 : Class := { plain "com/example/shelfmark/shelfmark/ScanlineElementsPinLaw" (some 0) with
  accessFlags := 49
  interfaces := #[]
  cf := some (fileOf pool1 23 #[] #[{ accessFlags := 1, nameIndex := 5, descriptorIndex := 6, attributes := #[] }, { accessFlags := 9, nameIndex := 34, descriptorIndex := 35, attributes := #[] }, { accessFlags := 10, nameIndex := 26, descriptorIndex := 27, attributes := #[] }, { accessFlags := 10, nameIndex := 30, descriptorIndex := 31, attributes := #[] }] 49 2 #[] #[])
  fields := #[]
  methods := #[k1m0, k1m1, k1m2, k1m3]
  instanceTypes := #[]
  staticTypes := #[]
  resolved := Array.replicate 43 none
  statics := none }

def pool2 : Array CpInfo := pool [(2, .class_ 4), (1, u "java/lang/Object"), (0, u "<init>"), (0, u "()V"), (0, .class_ 8), (0, u "com/example/shelfmark/shelfmark/Scanline"), (0, .fieldref 7 10), (0, .nameAndType 11 12), (0, u "NO_ELEMENTS"), (0, u "[I"), (0, .methodref 14 15), (0, .class_ 16), (0, .nameAndType 17 18), (0, u "java/util/Arrays"), (0, u "copyOf"), (0, u "([II)[I"), (0, u "MIN_CONTRAST"), (0, u "I"), (2, u "ROWS"), (3, u "elements"), (0, u "([BIIII)[I")] 9

def k2m0 : Method := { name := "<init>", desc := "()V", sig := { parameters := [], returnType := none }, accessFlags := 2, code := none }
def k2c1 : Code := { maxStack := 4, maxLocals := 14, code := prog_16_method_2_code, exceptionTable := #[], attributes := #[] }
def k2m1 : Method := { name := "elements", desc := "([BIIII)[I", sig := { parameters := [(.array .byte), .int, .int, .int, .int], returnType := some (.array .int) }, accessFlags := 8, code := some k2c1 }
/-- com/example/shelfmark/shelfmark/Scanline -/
def k2 : Class := { plain "com/example/shelfmark/shelfmark/Scanline" (some 0) with
  accessFlags := 48
  interfaces := #[]
  cf := some (fileOf pool2 7 #[] #[{ accessFlags := 2, nameIndex := 5, descriptorIndex := 6, attributes := #[] }, { accessFlags := 8, nameIndex := 27, descriptorIndex := 28, attributes := #[] }] 48 2 #[] #[{ accessFlags := 26, nameIndex := 19, descriptorIndex := 20, attributes := #[] }, { accessFlags := 26, nameIndex := 23, descriptorIndex := 20, attributes := #[] }, { accessFlags := 26, nameIndex := 11, descriptorIndex := 12, attributes := #[] }])
  fields := #[{ name := "MIN_CONTRAST", type := .int, accessFlags := 26, slot := 0, constantValue := 0 }, { name := "ROWS", type := .int, accessFlags := 26, slot := 1, constantValue := 0 }, { name := "NO_ELEMENTS", type := (.array .int), accessFlags := 26, slot := 2, constantValue := 0 }]
  methods := #[k2m0, k2m1]
  instanceTypes := #[]
  staticTypes := #[.int, .int, (.array .int)]
  resolved := Array.replicate 38 none
  statics := some 0 }

def pool3 : Array CpInfo := pool [(1, .class_ 2), (0, u "java/lang/Math"), (1, .class_ 6), (1, u "java/lang/Object"), (0, u "<init>"), (0, u "()V"), (89, .class_ 100), (1, u "java/lang/Math$RandomNumberGeneratorHolder"), (71, u "negativeZeroFloatBits"), (0, u "J"), (2, u "negativeZeroDoubleBits"), (21, u "max"), (2, u "min"), (43, u "$assertionsDisabled"), (0, u "Z"), (88, u "(II)I"), (2, u "twoToTheDoubleScaleDown"), (0, u "D"), (4, u "twoToTheDoubleScaleUp"), (9, u "E"), (3, u "PI"), (2, u "TAU"), (2, u "DEGREES_TO_RADIANS"), (0, u "RADIANS_TO_DEGREES")] 94

def k3m0 : Method := { name := "<init>", desc := "()V", sig := { parameters := [], returnType := none }, accessFlags := 2, code := none }
def k3c1 : Code := { maxStack := 2, maxLocals := 2, code := jdk_29_method_65_code, exceptionTable := #[], attributes := #[] }
def k3m1 : Method := { name := "max", desc := "(II)I", sig := { parameters := [.int, .int], returnType := some .int }, accessFlags := 9, code := some k3c1 }
def k3c2 : Code := { maxStack := 2, maxLocals := 2, code := jdk_29_method_69_code, exceptionTable := #[], attributes := #[] }
def k3m2 : Method := { name := "min", desc := "(II)I", sig := { parameters := [.int, .int], returnType := some .int }, accessFlags := 9, code := some k3c2 }
/-- java/lang/Math -/
def k3 : Class := { plain "java/lang/Math" (some 0) with
  accessFlags := 49
  interfaces := #[]
  cf := some (fileOf pool3 1 #[.nestMembers #[98]] #[{ accessFlags := 2, nameIndex := 7, descriptorIndex := 8, attributes := #[] }, { accessFlags := 9, nameIndex := 198, descriptorIndex := 335, attributes := #[] }, { accessFlags := 9, nameIndex := 201, descriptorIndex := 335, attributes := #[] }] 49 4 #[] #[{ accessFlags := 25, nameIndex := 354, descriptorIndex := 339, attributes := #[] }, { accessFlags := 25, nameIndex := 358, descriptorIndex := 339, attributes := #[] }, { accessFlags := 25, nameIndex := 361, descriptorIndex := 339, attributes := #[] }, { accessFlags := 26, nameIndex := 364, descriptorIndex := 339, attributes := #[] }, { accessFlags := 26, nameIndex := 365, descriptorIndex := 339, attributes := #[] }, { accessFlags := 26, nameIndex := 172, descriptorIndex := 173, attributes := #[] }, { accessFlags := 26, nameIndex := 176, descriptorIndex := 173, attributes := #[] }, { accessFlags := 8, nameIndex := 344, descriptorIndex := 339, attributes := #[] }, { accessFlags := 8, nameIndex := 338, descriptorIndex := 339, attributes := #[] }, { accessFlags := 4120, nameIndex := 245, descriptorIndex := 246, attributes := #[] }])
  fields := #[{ name := "E", type := .double, accessFlags := 25, slot := 0, constantValue := 0 }, { name := "PI", type := .double, accessFlags := 25, slot := 1, constantValue := 0 }, { name := "TAU", type := .double, accessFlags := 25, slot := 2, constantValue := 0 }, { name := "DEGREES_TO_RADIANS", type := .double, accessFlags := 26, slot := 3, constantValue := 0 }, { name := "RADIANS_TO_DEGREES", type := .double, accessFlags := 26, slot := 4, constantValue := 0 }, { name := "negativeZeroFloatBits", type := .long, accessFlags := 26, slot := 5, constantValue := 0 }, { name := "negativeZeroDoubleBits", type := .long, accessFlags := 26, slot := 6, constantValue := 0 }, { name := "twoToTheDoubleScaleUp", type := .double, accessFlags := 8, slot := 7, constantValue := 0 }, { name := "twoToTheDoubleScaleDown", type := .double, accessFlags := 8, slot := 8, constantValue := 0 }, { name := "$assertionsDisabled", type := .boolean, accessFlags := 4120, slot := 9, constantValue := 0 }]
  methods := #[k3m0, k3m1, k3m2]
  instanceTypes := #[]
  staticTypes := #[.double, .double, .double, .double, .double, .long, .long, .double, .double, .boolean]
  resolved := Array.replicate 460 none
  statics := none }

def pool4 : Array CpInfo := pool [(2, .class_ 4), (1, u "java/lang/Object"), (0, u "<init>"), (0, u "()V"), (7, .class_ 16), (1, u "java/util/Arrays"), (57, .class_ 76), (1, u "java/util/Arrays$NaturalOrder"), (32, u "()Ljava/lang/Object;"), (3, .class_ 115), (1, u "java/util/Arrays$LegacyMergeSort"), (1, u "Z"), (10, .nameAndType 129 109), (0, u "clone"), (20, .methodref 151 152), (0, .class_ 153), (0, .nameAndType 154 155), (0, u "java/lang/System"), (0, u "arraycopy"), (0, u "(Ljava/lang/Object;ILjava/lang/Object;II)V"), (146, u "copyOf"), (1, .methodref 305 306), (0, .class_ 307), (0, .nameAndType 308 309), (0, u "java/lang/Math"), (0, u "min"), (0, u "(II)I"), (6, .methodref 317 128), (0, .class_ 318), (0, u "[I"), (56, .class_ 376), (0, u "java/util/Arrays$ArrayList"), (68, u "$assertionsDisabled"), (269, u "MIN_ARRAY_SORT_GRAN"), (0, u "I"), (2, u "INSERTIONSORT_THRESHOLD"), (151, u "([II)[I"), (103, .class_ 976), (0, u "java/util/Arrays$ArrayItr")] 52

def k4m0 : Method := { name := "<init>", desc := "()V", sig := { parameters := [], returnType := none }, accessFlags := 2, code := none }
def k4c1 : Code := { maxStack := 6, maxLocals := 3, code := jdk_65_method_123_code, exceptionTable := #[], attributes := #[] }
def k4m1 : Method := { name := "copyOf", desc := "([II)[I", sig := { parameters := [(.array .int), .int], returnType := some (.array .int) }, accessFlags := 9, code := some k4c1 }
/-- java/util/Arrays -/
def k4 : Class := { plain "java/util/Arrays" (some 0) with
  accessFlags := 49
  interfaces := #[]
  cf := some (fileOf pool4 14 #[.nestMembers #[975, 375, 113, 74]] #[{ accessFlags := 2, nameIndex := 5, descriptorIndex := 6, attributes := #[] }, { accessFlags := 9, nameIndex := 302, descriptorIndex := 871, attributes := #[] }] 49 2 #[] #[{ accessFlags := 26, nameIndex := 715, descriptorIndex := 716, attributes := #[] }, { accessFlags := 26, nameIndex := 719, descriptorIndex := 716, attributes := #[] }, { accessFlags := 4120, nameIndex := 445, descriptorIndex := 117, attributes := #[] }])
  fields := #[{ name := "MIN_ARRAY_SORT_GRAN", type := .int, accessFlags := 26, slot := 0, constantValue := 0 }, { name := "INSERTIONSORT_THRESHOLD", type := .int, accessFlags := 26, slot := 1, constantValue := 0 }, { name := "$assertionsDisabled", type := .boolean, accessFlags := 4120, slot := 2, constantValue := 0 }]
  methods := #[k4m0, k4m1]
  instanceTypes := #[]
  staticTypes := #[.int, .int, .boolean]
  resolved := Array.replicate 1029 none
  statics := none }

def pool5 : Array CpInfo := pool [(1, .class_ 2), (0, u "java/lang/Cloneable"), (0, .class_ 4), (0, u "java/lang/Object")] 2

/-- java/lang/Cloneable -/
def k5 : Class := { plain "java/lang/Cloneable" (some 0) with
  accessFlags := 1537
  interfaces := #[]
  cf := some (fileOf pool5 1 #[] #[] 1537 3 #[] #[])
  fields := #[]
  methods := #[]
  instanceTypes := #[]
  staticTypes := #[]
  resolved := Array.replicate 7 none
  statics := none }

def pool6 : Array CpInfo := pool [(2, .class_ 4), (1, u "java/lang/Object"), (0, u "<init>"), (0, u "()V"), (1, .class_ 10), (1, u "java/lang/System"), (0, u "allowSecurityManager"), (0, u "I"), (16, u "cons"), (0, u "Ljava/io/Console;"), (77, .class_ 110), (1, u "java/lang/System$CallersHolder"), (43, u "initialErrStream"), (0, u "Ljava/io/PrintStream;"), (19, u "security"), (0, u "Ljava/lang/SecurityManager;"), (31, .class_ 209), (0, u "java/lang/System$1"), (7, u "props"), (0, u "Ljava/util/Properties;"), (2, u "lineSeparator"), (0, u "Ljava/lang/String;"), (96, .class_ 321), (1, u "java/lang/System$LoggerFinder"), (5, .class_ 328), (0, u "java/lang/System$Logger"), (67, u "err"), (2, u "out"), (91, u "notSupportedJnuEncoding"), (15, u "in"), (17, u "initialIn"), (0, u "Ljava/io/InputStream;"), (35, u "bootLayer"), (0, u "Ljava/lang/ModuleLayer;"), (99, .class_ 664), (0, u "java/lang/System$2"), (9, u "NEVER"), (2, u "MAYBE"), (49, u "arraycopy"), (0, u "(Ljava/lang/Object;ILjava/lang/Object;II)V"), (72, .class_ 802), (0, u "java/lang/System$Logger$Level")] 31

def k6m0 : Method := { name := "<init>", desc := "()V", sig := { parameters := [], returnType := none }, accessFlags := 2, code := none }
def k6m1 : Method := { name := "arraycopy", desc := "(Ljava/lang/Object;ILjava/lang/Object;II)V", sig := { parameters := [(.object "java/lang/Object"), .int, (.object "java/lang/Object"), .int, .int], returnType := none }, accessFlags := 265, code := none }
/-- java/lang/System -/
def k6 : Class := { plain "java/lang/System" (some 0) with
  accessFlags := 49
  interfaces := #[]
  cf := some (fileOf pool6 8 #[.nestMembers #[319, 327, 801, 108, 663, 208]] #[{ accessFlags := 2, nameIndex := 5, descriptorIndex := 6, attributes := #[] }, { accessFlags := 265, nameIndex := 727, descriptorIndex := 728, attributes := #[] }] 49 2 #[] #[{ accessFlags := 25, nameIndex := 507, descriptorIndex := 526, attributes := #[] }, { accessFlags := 25, nameIndex := 399, descriptorIndex := 155, attributes := #[] }, { accessFlags := 25, nameIndex := 396, descriptorIndex := 155, attributes := #[] }, { accessFlags := 10, nameIndex := 525, descriptorIndex := 526, attributes := #[] }, { accessFlags := 26, nameIndex := 674, descriptorIndex := 12, attributes := #[] }, { accessFlags := 26, nameIndex := 677, descriptorIndex := 12, attributes := #[] }, { accessFlags := 10, nameIndex := 11, descriptorIndex := 12, attributes := #[] }, { accessFlags := 74, nameIndex := 175, descriptorIndex := 176, attributes := #[] }, { accessFlags := 10, nameIndex := 491, descriptorIndex := 222, attributes := #[] }, { accessFlags := 74, nameIndex := 29, descriptorIndex := 30, attributes := #[] }, { accessFlags := 74, nameIndex := 154, descriptorIndex := 155, attributes := #[] }, { accessFlags := 10, nameIndex := 217, descriptorIndex := 218, attributes := #[] }, { accessFlags := 10, nameIndex := 221, descriptorIndex := 222, attributes := #[] }, { accessFlags := 8, nameIndex := 562, descriptorIndex := 563, attributes := #[] }])
  fields := #[{ name := "in", type := (.object "java/io/InputStream"), accessFlags := 25, slot := 0, constantValue := 0 }, { name := "out", type := (.object "java/io/PrintStream"), accessFlags := 25, slot := 1, constantValue := 0 }, { name := "err", type := (.object "java/io/PrintStream"), accessFlags := 25, slot := 2, constantValue := 0 }, { name := "initialIn", type := (.object "java/io/InputStream"), accessFlags := 10, slot := 3, constantValue := 0 }, { name := "NEVER", type := .int, accessFlags := 26, slot := 4, constantValue := 0 }, { name := "MAYBE", type := .int, accessFlags := 26, slot := 5, constantValue := 0 }, { name := "allowSecurityManager", type := .int, accessFlags := 10, slot := 6, constantValue := 0 }, { name := "security", type := (.object "java/lang/SecurityManager"), accessFlags := 74, slot := 7, constantValue := 0 }, { name := "notSupportedJnuEncoding", type := (.object "java/lang/String"), accessFlags := 10, slot := 8, constantValue := 0 }, { name := "cons", type := (.object "java/io/Console"), accessFlags := 74, slot := 9, constantValue := 0 }, { name := "initialErrStream", type := (.object "java/io/PrintStream"), accessFlags := 74, slot := 10, constantValue := 0 }, { name := "props", type := (.object "java/util/Properties"), accessFlags := 10, slot := 11, constantValue := 0 }, { name := "lineSeparator", type := (.object "java/lang/String"), accessFlags := 10, slot := 12, constantValue := 0 }, { name := "bootLayer", type := (.object "java/lang/ModuleLayer"), accessFlags := 8, slot := 13, constantValue := 0 }]
  methods := #[k6m0, k6m1]
  instanceTypes := #[]
  staticTypes := #[(.object "java/io/InputStream"), (.object "java/io/PrintStream"), (.object "java/io/PrintStream"), (.object "java/io/InputStream"), .int, .int, .int, (.object "java/lang/SecurityManager"), (.object "java/lang/String"), (.object "java/io/Console"), (.object "java/io/PrintStream"), (.object "java/util/Properties"), (.object "java/lang/String"), (.object "java/lang/ModuleLayer")]
  resolved := Array.replicate 834 none
  statics := none }

def pool7 : Array CpInfo := pool [(1, u "java/io/Serializable"), (0, .class_ 1), (0, u "java/lang/Object"), (0, .class_ 3)] 3

/-- java/io/Serializable -/
def k7 : Class := { plain "java/io/Serializable" (some 0) with
  accessFlags := 1537
  interfaces := #[]
  cf := some (fileOf pool7 2 #[] #[] 1537 4 #[] #[])
  fields := #[]
  methods := #[]
  instanceTypes := #[]
  staticTypes := #[]
  resolved := Array.replicate 8 none
  statics := none }

/-- the primitive byte -/
def k8 : Class := { plain "byte" none with kind := .primitive 'B', accessFlags := 0x411 }
/-- [B -/
def k9 : Class := { plain "[B" (some 0) with kind := .array 8 .byte, interfaces := #[5, 7], accessFlags := 1041 }

/-- the primitive int -/
def k10 : Class := { plain "int" none with kind := .primitive 'I', accessFlags := 0x411 }
/-- [I -/
def k11 : Class := { plain "[I" (some 0) with kind := .array 10 .int, interfaces := #[5, 7], accessFlags := 1041 }

def heap : Heap := #[{ cls := 2, slots := #[.int 0, .int 0, .ref 1], vm := .statics 2 },
  { cls := 11, slots := #[], vm := .none }]
def classes : Array Class := #[k0, k1, k2, k3, k4, k5, k6, k7, k8, k9, k10, k11]
def interned : List (Array UInt16 × Addr) := []
def slotsUsed : Nat := 3
def theMethod : MethodId := ⟨1, 1⟩
def args0 : Array Value := #[.int 3, .int 300, .int 1]
def aboutOver (below : List Frame) : State where
  vm := { classes := classes, interned := interned.toArray }
  heap := heap
  slotsUsed := slotsUsed
  threads := #[{ frames := .invoking theMethod args0 :: below }]
def below0 : List Frame := [.native { method := ⟨0, 0⟩, args := #[] }]
def about1 : State := aboutOver below0
def p0 : Program := .bare "" "" ""
def e0 : Env := launch0.env 0 0 0
theorem w_frames : about1.frames = Frame.invoking theMethod args0 :: below0 := rfl
set_option maxRecDepth 65536 in
theorem w_args : argsFit about1.vm theMethod args0 = true := by decide +kernel
set_option maxRecDepth 65536 in
theorem w_heap : heapFits about1 = true := by decide +kernel
set_option maxRecDepth 65536 in
theorem w_runnable : about1.curStatus? = some .runnable := by decide +kernel
set_option maxRecDepth 65536 in
theorem w_alone : about1.alone = true := by decide +kernel
set_option maxRecDepth 65536 in
theorem w_named : about1.methodNamed? x = some theMethod := by decide +kernel
set_option maxRecDepth 65536 in
theorem w_hears : about1.hears theMethod below0 = true := by decide +kernel
set_option maxRecDepth 65536 in
theorem w_ripe : about1.ripe theMethod args0 below0 = true := by decide +kernel
theorem w_running : about1.status = .running := rfl
set_option maxRecDepth 65536 in
theorem w_room : about1.hasRoom e0.platform room_1 = true :=
  launch0.hasRoom_least _ room_1 (by decide +kernel) (by decide +kernel) (by decide +kernel) (by decide +kernel) (by decide +kernel) (by decide +kernel)
theorem allAtoms_all (ts : List Jvm.Cond) (a : Array Jvm.Value) (st : Jvm.State) : (allAtoms ts).before a st = ts.all (fun c => c.before a st) := by
  induction ts with
  | nil => rfl
  | cons c t ih =>
    show (Jvm.Cond.and c (allAtoms t)).before a st = _
    rw [Jvm.Cond.before_and, ih, List.all_cons]
def words1 : List Jvm.Cond := Jvm.Cond.code x code maxLocals ret :: tables_1
/-- a 'code' word, met by the world's own term for the bytes: nothing is compared byte by byte -/
theorem code_word {y : MethodName} {bytes : ByteArray} {mx : Nat} {rt : Option FieldType} {a : Array Value} {s : State} {m : MethodId} {meth : Method} {c : Code} (h1 : s.methodNamed? y = some m) (h2 : s.vm.method? m = some meth) (h3 : meth.code = some c) (h4 : c.code = bytes)
    (h5 : (c.maxLocals == mx && c.exceptionTable.isEmpty && decide (c.maxStack ≤ mostOperands) && decide (meth.sig.returnType = rt) && !meth.locks && decide (parseMethodDescriptor y.desc = some meth.sig)) = true) : (Jvm.Cond.code y bytes mx rt).before a s = true := by
  simp only [Bool.and_eq_true, beq_iff_eq, Bool.not_eq_true', decide_eq_true_eq] at h5
  obtain ⟨⟨⟨⟨⟨g1, g2⟩, g3⟩, g4⟩, g5⟩, g6⟩ := h5
  simp [Cond.before, Cond.holds, Cond.value, h1, h2, h3, h4, g1, g2, g3, g4, g5, g6]
def isCode : Jvm.Cond → Bool
  | .code _ _ _ _ => true
  | _ => false
theorem all_split {L : List Jvm.Cond} {P : Jvm.Cond → Bool} (h1 : L.all (fun c => isCode c || P c) = true) (h2 : ∀ c ∈ L.filter isCode, P c = true) : L.all P = true := by
  refine List.all_eq_true.mpr fun c hc => ?_
  have h := List.all_eq_true.mp h1 c hc
  rcases Bool.eq_false_or_eq_true (isCode c) with hi | hi
  · exact h2 c (List.mem_filter.mpr ⟨hc, hi⟩)
  · simpa [hi] using h
set_option maxRecDepth 65536 in
theorem w_c0 : (Jvm.Cond.code x code maxLocals ret).before args0 about1 = true := code_word (m := ⟨1, 1⟩) (meth := k1m1) (c := k1c1) (by decide +kernel) rfl rfl rfl (by decide +kernel)
set_option maxRecDepth 65536 in
theorem w_c1 : (Jvm.Cond.code ({ cls := "com/example/shelfmark/shelfmark/Scanline", name := "elements", desc := "([BIIII)[I" } : Jvm.MethodName) prog_16_method_2_code (14 : Nat) (Option.some (Jvm.ClassFile.FieldType.array Jvm.ClassFile.FieldType.int))).before args0 about1 = true := code_word (m := ⟨2, 1⟩) (meth := k2m1) (c := k2c1) (by decide +kernel) rfl rfl rfl (by decide +kernel)
set_option maxRecDepth 65536 in
theorem w_c2 : (Jvm.Cond.code ({ cls := "java/lang/Math", name := "min", desc := "(II)I" } : Jvm.MethodName) jdk_29_method_69_code (2 : Nat) (Option.some Jvm.ClassFile.FieldType.int)).before args0 about1 = true := code_word (m := ⟨3, 2⟩) (meth := k3m2) (c := k3c2) (by decide +kernel) rfl rfl rfl (by decide +kernel)
set_option maxRecDepth 65536 in
theorem w_c3 : (Jvm.Cond.code ({ cls := "java/lang/Math", name := "max", desc := "(II)I" } : Jvm.MethodName) jdk_29_method_65_code (2 : Nat) (Option.some Jvm.ClassFile.FieldType.int)).before args0 about1 = true := code_word (m := ⟨3, 1⟩) (meth := k3m1) (c := k3c1) (by decide +kernel) rfl rfl rfl (by decide +kernel)
set_option maxRecDepth 65536 in
theorem w_c4 : (Jvm.Cond.code ({ cls := "java/util/Arrays", name := "copyOf", desc := "([II)[I" } : Jvm.MethodName) jdk_65_method_123_code (3 : Nat) (Option.some (Jvm.ClassFile.FieldType.array Jvm.ClassFile.FieldType.int))).before args0 about1 = true := code_word (m := ⟨4, 1⟩) (meth := k4m1) (c := k4c1) (by decide +kernel) rfl rfl rfl (by decide +kernel)
set_option maxRecDepth 65536 in
theorem w_c5 : (Jvm.Cond.code ({ cls := "com/example/shelfmark/shelfmark/ScanlineElementsPinLaw", name := "push", desc := "([I[IZZ)V" } : Jvm.MethodName) method_3_code (5 : Nat) (Option.none : Option Jvm.ClassFile.FieldType)).before args0 about1 = true := code_word (m := ⟨1, 2⟩) (meth := k1m2) (c := k1c2) (by decide +kernel) rfl rfl rfl (by decide +kernel)
set_option maxRecDepth 65536 in
theorem w_c6 : (Jvm.Cond.code ({ cls := "com/example/shelfmark/shelfmark/ScanlineElementsPinLaw", name := "same", desc := "([I[II)Z" } : Jvm.MethodName) method_4_code (3 : Nat) (Option.some Jvm.ClassFile.FieldType.boolean)).before args0 about1 = true := code_word (m := ⟨1, 3⟩) (meth := k1m3) (c := k1c3) (by decide +kernel) rfl rfl rfl (by decide +kernel)
def codes1 : List Jvm.Cond := [Jvm.Cond.code x code maxLocals ret, Jvm.Cond.code ({ cls := "com/example/shelfmark/shelfmark/Scanline", name := "elements", desc := "([BIIII)[I" } : Jvm.MethodName) prog_16_method_2_code (14 : Nat) (Option.some (Jvm.ClassFile.FieldType.array Jvm.ClassFile.FieldType.int)), Jvm.Cond.code ({ cls := "java/lang/Math", name := "min", desc := "(II)I" } : Jvm.MethodName) jdk_29_method_69_code (2 : Nat) (Option.some Jvm.ClassFile.FieldType.int), Jvm.Cond.code ({ cls := "java/lang/Math", name := "max", desc := "(II)I" } : Jvm.MethodName) jdk_29_method_65_code (2 : Nat) (Option.some Jvm.ClassFile.FieldType.int), Jvm.Cond.code ({ cls := "java/util/Arrays", name := "copyOf", desc := "([II)[I" } : Jvm.MethodName) jdk_65_method_123_code (3 : Nat) (Option.some (Jvm.ClassFile.FieldType.array Jvm.ClassFile.FieldType.int)), Jvm.Cond.code ({ cls := "com/example/shelfmark/shelfmark/ScanlineElementsPinLaw", name := "push", desc := "([I[IZZ)V" } : Jvm.MethodName) method_3_code (5 : Nat) (Option.none : Option Jvm.ClassFile.FieldType), Jvm.Cond.code ({ cls := "com/example/shelfmark/shelfmark/ScanlineElementsPinLaw", name := "same", desc := "([I[II)Z" } : Jvm.MethodName) method_4_code (3 : Nat) (Option.some Jvm.ClassFile.FieldType.boolean)]
set_option maxRecDepth 65536 in
theorem codes_eq : words1.filter isCode = codes1 := rfl
theorem w_codes : ∀ c ∈ words1.filter isCode, c.before args0 about1 = true := by
  rw [codes_eq]
  intro c hc
  simp only [codes1, List.mem_cons, List.not_mem_nil, or_false] at hc
  rcases hc with rfl | rfl | rfl | rfl | rfl | rfl | rfl
  · exact w_c0
  · exact w_c1
  · exact w_c2
  · exact w_c3
  · exact w_c4
  · exact w_c5
  · exact w_c6
set_option maxRecDepth 65536 in
theorem w_t1 : (words1.take 24).all (fun c => isCode c || c.before args0 about1) = true := by decide +kernel
set_option maxRecDepth 65536 in
theorem w_t2 : (words1.drop 24).all (fun c => isCode c || c.before args0 about1) = true := by decide +kernel
theorem w_tables : (allAtoms (Jvm.Cond.code x code maxLocals ret :: tables_1)).before args0 about1 = true := by
  rw [allAtoms_all]
  show words1.all (fun c => c.before args0 about1) = true
  refine all_split ?_ w_codes
  rw [← List.take_append_drop 24 words1, List.all_append, w_t1, w_t2]
  rfl
set_option maxRecDepth 65536 in
theorem w_case : (Jvm.Cond.and given_1 narrow_1).before args0 about1 = true := by decide +kernel
theorem w_applies : (headSpec (Jvm.Cond.code x code maxLocals ret :: tables_1) room_1).applies x e0.platform about1 = true :=
  (Spec.applies_iff w_frames).mpr ⟨w_running, w_runnable, w_alone, w_named, w_hears, w_ripe, w_room, w_tables⟩
theorem atStart : AtStart classFile x code maxLocals ret World_1 tables_1 room_1 Calls_1 rest_1 Pre_1 launch0 p0 e0 about1 theMethod args0 below0 :=
  ⟨lists_1, trivial, launch0.admits_env _ _ _, launch0.least_env, fairChoices_fair.cas, fairChoices_fair.clock, w_frames, w_args, w_heap, w_applies, trivial, trivial, w_case⟩
end start1
theorem witness_1 : WitnessClaimed_1 := ⟨start1.p0, start1.e0, start1.about1, start1.theMethod, start1.args0, start1.below0, start1.atStart⟩
end Jvm.Pilot.@@N@@
