import JvmDerived
import JvmDerived.Pilot.@@N@@Statement
import JvmDerived.Pilot.@@N@@Code
set_option linter.unusedVariables false
set_option linter.unusedSimpArgs false
namespace Jvm.Pilot.@@N@@
open Jvm Jvm.ClassFile Sem Op Lib Jvm.Free Jvm.Stand Jvm.LawKit Jvm.RoadKit Bundle Jvm.Pilot.@@N@@.Jvm.D
section Own
variable {p : Program} {l : Launch} {e : Env} {R : Room} {s : State} {m : MethodId} {args : Array Value} {below : List Frame} {meth : Method} {c : Code} {T : State} {locs : List Loc} {cells slots : Nat}
/-- from U the run comes to an end of which Q holds -/
def OwnEnds (tb : Tables) (e : Env) (below : List Frame) (Q : Outcome → State → Prop) (U : State) : Prop :=
  ∃ s₂ o, Steps tb e below U s₂ ∧ s₂.status = .running ∧ Ended s₂ below o ∧ Q o s₂
abbrev OwnQ (s : State) (K N : Nat) (Q : Option Value → Heap → List Loc → Prop) : Outcome → State → Prop :=
  fun o U => ∃ v L, o = .returned v ∧ Q v U.heap L ∧ FrameEnd s o U L K N
theorem own_via {tb : Tables} {Q : Outcome → State → Prop} {U U' : State} (h : ∀ t, Steps tb e below U' t → Steps tb e below U t) (k : OwnEnds tb e below Q U') : OwnEnds tb e below Q U := by
  obtain ⟨s₂, o, h1, h2⟩ := k
  exact ⟨s₂, o, h _ h1, h2⟩
theorem own_of {tb : Tables} {Q : Outcome → State → Prop} {U U' : State} (h : Steps tb e below U U') (k : OwnEnds tb e below Q U') : OwnEnds tb e below Q U :=
  own_via (fun _ q => h.trans q) k
theorem own_wide {K N : Nat} (X : Stand p l e R s m args below meth c T locs cells slots) (h1 : cells ≤ K) (h2 : slots ≤ N) : Stand p l e R s m args below meth c T locs K N :=
  { X with same := X.same.mono h1 h2 }
theorem own_ret (X : Stand p l e R s m args below meth c T locs cells slots) {Q : Option Value → Heap → List Loc → Prop} {K N : Nat} {v : Option Value} (hv : meth.sig.returnType = none → v = none) (hlk : meth.locks = false) {f : JFrame}
    (st : ∀ fs, (∀ (f : JFrame) (acts : List Action), f.method = m → f.locked = none → f.entered = [] → (doReturn e (T.setTop f) acts v).1 = T.setFrames fs) → Steps p.tables e below (T.setTop f) (T.setFrames fs))
    (hQ : Q v T.heap locs) (hK : cells ≤ K) (hN : slots ≤ N) : OwnEnds p.tables e below (OwnQ s K N Q) (T.setTop f) := by
  obtain ⟨fs, hr, hrun, hended, hW, hsame⟩ := X.leave (v := v) hv hlk
  exact ⟨_, _, st fs hr, hrun, hended, _, _, rfl, hQ, ⟨_, rfl⟩, hW, hsame.mono hK hN⟩
theorem own_retI (X : Stand p l e R s m args below meth c T locs cells slots) (hx : p.tables.exec = Jvm.exec) {Q : Option Value → Heap → List Loc → Prop} {K N pc : Nat} {Ls : Array Slot} {z : Int32} {rest : List Value} (hret : meth.sig.returnType = some .int) (hlk : meth.locks = false) (hd : decode c.code pc = .ok (.ireturn, 1))
    (hQ : Q (some (.int z)) T.heap locs) (hK : cells ≤ K) (hN : slots ≤ N) : OwnEnds p.tables e below (OwnQ s K N Q) (T.setTop (mkF m pc Ls (.int z :: rest))) :=
  own_ret X (fun h => by rw [hret] at h; cases h) hlk (fun fs hl => retOut X hx hret rfl (Or.inl ⟨rfl, Or.inl rfl, z, rfl⟩) hd hl) hQ hK hN
theorem own_retN (X : Stand p l e R s m args below meth c T locs cells slots) (hx : p.tables.exec = Jvm.exec) {Q : Option Value → Heap → List Loc → Prop} {K N pc : Nat} {Ls : Array Slot} {z : Int32} {t : FieldType} {rest : List Value} (hret : meth.sig.returnType = some t) (ht : t = .boolean ∨ t = .byte ∨ t = .char ∨ t = .short) (hlk : meth.locks = false) (hd : decode c.code pc = .ok (.ireturn, 1))
    (hQ : Q (some (.int (nar t z))) T.heap locs) (hK : cells ≤ K) (hN : slots ≤ N) : OwnEnds p.tables e below (OwnQ s K N Q) (T.setTop (mkF m pc Ls (.int z :: rest))) :=
  own_ret X (fun h => by rw [hret] at h; cases h) hlk (fun fs hl => retN X hx hret ht hd hl) hQ hK hN
theorem own_retJ (X : Stand p l e R s m args below meth c T locs cells slots) (hx : p.tables.exec = Jvm.exec) {Q : Option Value → Heap → List Loc → Prop} {K N pc : Nat} {Ls : Array Slot} {z : Int64} {rest : List Value} (hret : meth.sig.returnType = some .long) (hlk : meth.locks = false) (hd : decode c.code pc = .ok (.lreturn, 1))
    (hQ : Q (some (.long z)) T.heap locs) (hK : cells ≤ K) (hN : slots ≤ N) : OwnEnds p.tables e below (OwnQ s K N Q) (T.setTop (mkF m pc Ls (.long z :: rest))) :=
  own_ret X (fun h => by rw [hret] at h; cases h) hlk (fun fs hl => retOut X hx hret rfl (Or.inr (Or.inl ⟨rfl, rfl, z, rfl⟩)) hd hl) hQ hK hN
theorem own_retA (X : Stand p l e R s m args below meth c T locs cells slots) (hx : p.tables.exec = Jvm.exec) {Q : Option Value → Heap → List Loc → Prop} {K N pc : Nat} {Ls : Array Slot} {w : Value} {t : FieldType} {rest : List Value} (hret : meth.sig.returnType = some t) (ht : t.isReference = true) (hw : w.isRef = true) (hlk : meth.locks = false) (hd : decode c.code pc = .ok (.areturn, 1))
    (hQ : Q (some w) T.heap locs) (hK : cells ≤ K) (hN : slots ≤ N) : OwnEnds p.tables e below (OwnQ s K N Q) (T.setTop (mkF m pc Ls (w :: rest))) :=
  own_ret X (fun h => by rw [hret] at h; cases h) hlk (fun fs hl => retOut X hx hret (by cases t <;> first | (cases ht; done) | (cases w <;> first | rfl | (cases hw; done))) (Or.inr (Or.inr (Or.inr (Or.inr ⟨rfl, ht, hw⟩)))) hd hl) hQ hK hN
theorem own_retV (X : Stand p l e R s m args below meth c T locs cells slots) (hx : p.tables.exec = Jvm.exec) {Q : Option Value → Heap → List Loc → Prop} {K N pc : Nat} {Ls : Array Slot} (hret : meth.sig.returnType = none) (hlk : meth.locks = false) (hd : decode c.code pc = .ok (.return_, 1))
    (hQ : Q none T.heap locs) (hK : cells ≤ K) (hN : slots ≤ N) : OwnEnds p.tables e below (OwnQ s K N Q) (T.setTop (mkF m pc Ls [])) :=
  own_ret X (fun _ => rfl) hlk (fun fs hl => X.returnOut hx hret hd hl) hQ hK hN
theorem own_lc_lt_t {x y : Int64} (h : x < y) : ifCond.holds .lt (lcmpW x y) = true ∧ ifCond.holds .ge (lcmpW x y) = false := by
  have q : lcmpW x y < 0 := by rw [lcW, lc_lt]; exact h
  exact ⟨(if0 _ _).trans (tlt q).1, (if0 _ _).trans (tlt q).2.1⟩
theorem own_lc_lt_f {x y : Int64} (h : ¬ (x < y)) : ifCond.holds .lt (lcmpW x y) = false ∧ ifCond.holds .ge (lcmpW x y) = true := by
  have q : ¬ lcmpW x y < 0 := by rw [lcW, lc_lt]; exact h
  exact ⟨(if0 _ _).trans (flt q).1, (if0 _ _).trans (flt q).2.1⟩
theorem own_lc_gt_t {x y : Int64} (h : y < x) : ifCond.holds .gt (lcmpW x y) = true ∧ ifCond.holds .le (lcmpW x y) = false := by
  have q : 0 < lcmpW x y := by rw [lcW, lc_gt]; exact h
  exact ⟨(if0 _ _).trans (tlt q).2.2.1, (if0 _ _).trans (tlt q).2.2.2⟩
theorem own_lc_gt_f {x y : Int64} (h : ¬ (y < x)) : ifCond.holds .gt (lcmpW x y) = false ∧ ifCond.holds .le (lcmpW x y) = true := by
  have q : ¬ 0 < lcmpW x y := by rw [lcW, lc_gt]; exact h
  exact ⟨(if0 _ _).trans (flt q).2.2.1, (if0 _ _).trans (flt q).2.2.2⟩
theorem own_lc_eq_t {x y : Int64} (h : x = y) : ifCond.holds .eq (lcmpW x y) = true ∧ ifCond.holds .ne (lcmpW x y) = false := by
  have q : lcmpW x y = 0 := by rw [lcW, lc_eq]; exact h
  exact ⟨(if0 _ _).trans (teq q).1, (if0 _ _).trans (teq q).2⟩
theorem own_lc_eq_f {x y : Int64} (h : ¬ (x = y)) : ifCond.holds .eq (lcmpW x y) = false ∧ ifCond.holds .ne (lcmpW x y) = true := by
  have q : ¬ lcmpW x y = 0 := by rw [lcW, lc_eq]; exact h
  exact ⟨(if0 _ _).trans (feq q).1, (if0 _ _).trans (feq q).2⟩
theorem own_lrem {g : JFrame} {target : State} (X : Stand p l e R s m args below meth c T locs cells slots) (hx : p.tables.exec = Jvm.exec) (hg : g.method = m) {x y : Int64} {rest : List Value} (hd : decode c.code g.pc = .ok (.lrem, 1)) (hs : g.stack = .long y :: .long x :: rest) (hy : y ≠ 0)
    (hr : Steps p.tables e below (T.setTop { g with pc := g.pc + 1, stack := .long (x % y) :: rest }) target) : Steps p.tables e below (T.setTop g) target := by
  have q : x - x / y * y = x % y := lrem_mod x y
  exact XS.lrem X.here hx hg hd hs hy (by rw [q]; exact hr)
theorem own_cat {w : Value} (h : w.isRef = true) : w.category = 1 := by rcases ref_cases h with rfl | ⟨a, rfl⟩ <;> rfl
theorem own_narR {w : Value} {t : FieldType} (ht : t.isReference = true) (h : w.isRef = true) : narrow t w = w := by
  cases t <;> first | (cases ht; done) | (rcases ref_cases h with rfl | ⟨a, rfl⟩ <;> rfl)
theorem own_fitR {w : Value} {t : FieldType} (ht : t.isReference = true) (h : w.isRef = true) : fits t w = true := by
  cases t <;> first | (cases ht; done) | (rcases ref_cases h with rfl | ⟨a, rfl⟩ <;> rfl)
theorem own_narb {c : Prop} [Decidable c] {r : Int32} (h : r = if c then 0 else 1) : nar .boolean r = r := by
  by_cases q : c
  · rw [if_pos q] at h; rw [h]; rfl
  · rw [if_neg q] at h; rw [h]; rfl
/-! arrays as lists of values -/
def AL (Z : State) (h : Heap) (a : Addr) (ty : FieldType) (xs : List Value) : Prop := ∃ c : Cell, Arr Z h a c ty ∧ c.slots.toList = xs ∧ xs.length < 2147483648
variable {Z : State} {h h' : Heap} {a b : Addr} {ty : FieldType} {xs : List Value} {sl : Nat} {v : Value} {ws : List Addr} {C n d : String}
theorem AL.lt (F : AL Z h a ty xs) : a < h.size := by obtain ⟨c, A, -⟩ := F; exact A.lt
theorem AL.ext (F : AL Z h a ty xs) (E : Ext h h') : AL Z h' a ty xs := by obtain ⟨c, A, r⟩ := F; exact ⟨c, A.ext E, r⟩
theorem AL.other (F : AL Z h a ty xs) (W : Wr h h' b sl v) (q : a ≠ b) : AL Z h' a ty xs := by obtain ⟨c, A, r⟩ := F; exact ⟨c, A.other W q, r⟩
theorem AL.keep (F : AL Z h a ty xs) (K : Keep h h' ws) (q : a ∉ ws) : AL Z h' a ty xs := by obtain ⟨c, A, r⟩ := F; exact ⟨c, ⟨K.2.1 a c A.1 q, A.2⟩, r⟩
theorem AL.new {k : ClassId} {z : Int32} (A : Arr Z h a (newA k ty z) ty) (q : ¬ z < 0) {i : Nat} (hi : z.toNatClampNeg = i) : AL Z h a ty (List.replicate i (defaultValue ty)) := by
  refine ⟨_, A, ?_, ?_⟩
  · simp [newA, hi]
  · rw [List.length_replicate, ← hi]; exact (back32 q).2
theorem AL.ne {C : String} (F : AL Z h a ty xs) (G : Exa Z h b C) {a0 : Array Value} {k : Nat} (wi : (Cond.instantiable C k).before a0 Z = true) : b ≠ a := by
  obtain ⟨c, A, -⟩ := F; exact ne_arr G wi A
theorem own_idx {cl : Cell} (hc : cl.slots.toList = xs) {j : Int32} {i : Nat} (hj : j.toInt = i) (hi : i < xs.length) : ¬ (j < 0 ∨ cl.slots.size ≤ j.toNatClampNeg) ∧ j.toNatClampNeg = i := by
  have h1 : j.toNatClampNeg = i := by simp only [Int32.toNatClampNeg, hj]; rfl
  have h2 : cl.slots.size = xs.length := by rw [← hc]; simp
  refine ⟨fun q => ?_, h1⟩
  rcases q with q | q
  · rw [Int32.lt_iff_toInt_lt, hj] at q; have e0 : (0 : Int32).toInt = 0 := rfl; omega
  · omega
theorem own_at {cl : Cell} (hc : cl.slots.toList = xs) {i : Nat} : cl.slots[i]? = xs[i]? := by rw [← hc]; simp
theorem AL.set {cl : Cell} (A : Arr Z h a cl ty) (hc : cl.slots.toList = xs) (hl : xs.length < 2147483648) {i : Nat} (W : Wr h h' a i v) : AL Z h' a ty (xs.set i v) := by
  refine ⟨_, A.same W, ?_, by simpa using hl⟩
  simp [Cell.setSlot, hc]
theorem own_stI (X : Stand p l e R s m args below meth c T locs cells slots) (hx : p.tables.exec = Jvm.exec) (hZ : Z.Warmed39 s.vm) (eT : T.heap = h) (A : AL Z h a .int xs) {j x : Int32} (i : Nat) (hj : j.toInt = i) (hi : i < xs.length) {g : JFrame} (hg : g.method = m) {rest : List Value} (hs : g.stack = .int x :: .int j :: .ref a :: rest) (hd : decode c.code g.pc = .ok (.iastore, 1)) :
    ∃ T' h', Stand p l e R s m args below meth c T' (locs ++ [⟨a, i⟩]) cells slots ∧ T'.heap = h' ∧ Wr h h' a i (.int x) ∧ AL Z h' a .int (xs.set i (.int x)) ∧ ∀ target, Steps p.tables e below (T'.setTop { g with pc := g.pc + 1, stack := rest }) target → Steps p.tables e below (T.setTop g) target := by
  obtain ⟨cl, A1, A2, A3⟩ := A
  obtain ⟨q1, q2⟩ := own_idx A2 hj hi
  obtain ⟨T', h', X', e', W, st⟩ := stI X hx hZ eT A1 q1 hg hs hd
  rw [q2] at X' W
  exact ⟨T', h', X', e', W, AL.set A1 A2 A3 W, st⟩
theorem own_stJ (X : Stand p l e R s m args below meth c T locs cells slots) (hx : p.tables.exec = Jvm.exec) (hZ : Z.Warmed39 s.vm) (eT : T.heap = h) (A : AL Z h a .long xs) {j : Int32} {x : Int64} (i : Nat) (hj : j.toInt = i) (hi : i < xs.length) {g : JFrame} (hg : g.method = m) {rest : List Value} (hs : g.stack = .long x :: .int j :: .ref a :: rest) (hd : decode c.code g.pc = .ok (.lastore, 1)) :
    ∃ T' h', Stand p l e R s m args below meth c T' (locs ++ [⟨a, i⟩]) cells slots ∧ T'.heap = h' ∧ Wr h h' a i (.long x) ∧ AL Z h' a .long (xs.set i (.long x)) ∧ ∀ target, Steps p.tables e below (T'.setTop { g with pc := g.pc + 1, stack := rest }) target → Steps p.tables e below (T.setTop g) target := by
  obtain ⟨cl, A1, A2, A3⟩ := A
  obtain ⟨q1, q2⟩ := own_idx A2 hj hi
  obtain ⟨T', h', X', e', W, st⟩ := stJ X hx hZ eT A1 q1 hg hs hd
  rw [q2] at X' W
  exact ⟨T', h', X', e', W, AL.set A1 A2 A3 W, st⟩
theorem own_stB (X : Stand p l e R s m args below meth c T locs cells slots) (hx : p.tables.exec = Jvm.exec) (hZ : Z.Warmed39 s.vm) (eT : T.heap = h) (A : AL Z h a .byte xs) {j x : Int32} (i : Nat) (hj : j.toInt = i) (hi : i < xs.length) {g : JFrame} (hg : g.method = m) {rest : List Value} (hs : g.stack = .int x :: .int j :: .ref a :: rest) (hd : decode c.code g.pc = .ok (.bastore, 1)) :
    ∃ T' h', Stand p l e R s m args below meth c T' (locs ++ [⟨a, i⟩]) cells slots ∧ T'.heap = h' ∧ Wr h h' a i (.int (nar .byte x)) ∧ AL Z h' a .byte (xs.set i (.int (nar .byte x))) ∧ ∀ target, Steps p.tables e below (T'.setTop { g with pc := g.pc + 1, stack := rest }) target → Steps p.tables e below (T.setTop g) target := by
  obtain ⟨cl, A1, A2, A3⟩ := A
  obtain ⟨q1, q2⟩ := own_idx A2 hj hi
  obtain ⟨T', h', X', e', W, st⟩ := stB X hx hZ eT A1 q1 hg hs hd
  rw [q2] at X' W
  exact ⟨T', h', X', e', W, AL.set A1 A2 A3 W, st⟩
theorem own_stZ (X : Stand p l e R s m args below meth c T locs cells slots) (hx : p.tables.exec = Jvm.exec) (hZ : Z.Warmed39 s.vm) (eT : T.heap = h) (A : AL Z h a .boolean xs) {j x : Int32} (i : Nat) (hj : j.toInt = i) (hi : i < xs.length) {g : JFrame} (hg : g.method = m) {rest : List Value} (hs : g.stack = .int x :: .int j :: .ref a :: rest) (hd : decode c.code g.pc = .ok (.bastore, 1)) :
    ∃ T' h', Stand p l e R s m args below meth c T' (locs ++ [⟨a, i⟩]) cells slots ∧ T'.heap = h' ∧ Wr h h' a i (.int (nar .boolean x)) ∧ AL Z h' a .boolean (xs.set i (.int (nar .boolean x))) ∧ ∀ target, Steps p.tables e below (T'.setTop { g with pc := g.pc + 1, stack := rest }) target → Steps p.tables e below (T.setTop g) target := by
  obtain ⟨cl, A1, A2, A3⟩ := A
  obtain ⟨q1, q2⟩ := own_idx A2 hj hi
  obtain ⟨T', h', X', e', W, st⟩ := stZ X hx hZ eT A1 q1 hg hs hd
  rw [q2] at X' W
  exact ⟨T', h', X', e', W, AL.set A1 A2 A3 W, st⟩
theorem own_stC (X : Stand p l e R s m args below meth c T locs cells slots) (hx : p.tables.exec = Jvm.exec) (hZ : Z.Warmed39 s.vm) (eT : T.heap = h) (A : AL Z h a .char xs) {j x : Int32} (i : Nat) (hj : j.toInt = i) (hi : i < xs.length) {g : JFrame} (hg : g.method = m) {rest : List Value} (hs : g.stack = .int x :: .int j :: .ref a :: rest) (hd : decode c.code g.pc = .ok (.castore, 1)) :
    ∃ T' h', Stand p l e R s m args below meth c T' (locs ++ [⟨a, i⟩]) cells slots ∧ T'.heap = h' ∧ Wr h h' a i (.int (nar .char x)) ∧ AL Z h' a .char (xs.set i (.int (nar .char x))) ∧ ∀ target, Steps p.tables e below (T'.setTop { g with pc := g.pc + 1, stack := rest }) target → Steps p.tables e below (T.setTop g) target := by
  obtain ⟨cl, A1, A2, A3⟩ := A
  obtain ⟨q1, q2⟩ := own_idx A2 hj hi
  obtain ⟨T', h', X', e', W, st⟩ := stC X hx hZ eT A1 q1 hg hs hd
  rw [q2] at X' W
  exact ⟨T', h', X', e', W, AL.set A1 A2 A3 W, st⟩
theorem own_lt_len {i : Nat} (hv : xs[i]? = some v) : i < xs.length := (List.getElem?_eq_some_iff.mp hv).1
theorem own_ldI (X : Stand p l e R s m args below meth c T locs cells slots) (hx : p.tables.exec = Jvm.exec) (hZ : Z.Warmed39 s.vm) (eT : T.heap = h) (A : AL Z h a .int xs) {j : Int32} (i : Nat) (hj : j.toInt = i) (hv : xs[i]? = some v) {g : JFrame} (hg : g.method = m) {rest : List Value} (hs : g.stack = .int j :: .ref a :: rest) (hd : decode c.code g.pc = .ok (.iaload, 1)) :
    ∀ target, Steps p.tables e below (T.setTop { g with pc := g.pc + 1, stack := v :: rest }) target → Steps p.tables e below (T.setTop g) target := by
  obtain ⟨cl, A1, A2, A3⟩ := A
  obtain ⟨q1, q2⟩ := own_idx A2 hj (own_lt_len hv)
  exact X.iaload hx (by rw [eT]; exact A1.1) (State.isArrayOf_alike hZ.alike A1.2.1) A1.2.2 q1 (by rw [q2, own_at A2]; exact hv) hg hs hd
theorem own_ldJ (X : Stand p l e R s m args below meth c T locs cells slots) (hx : p.tables.exec = Jvm.exec) (hZ : Z.Warmed39 s.vm) (eT : T.heap = h) (A : AL Z h a .long xs) {j : Int32} (i : Nat) (hj : j.toInt = i) (hv : xs[i]? = some v) {g : JFrame} (hg : g.method = m) {rest : List Value} (hs : g.stack = .int j :: .ref a :: rest) (hd : decode c.code g.pc = .ok (.laload, 1)) :
    ∀ target, Steps p.tables e below (T.setTop { g with pc := g.pc + 1, stack := v :: rest }) target → Steps p.tables e below (T.setTop g) target := by
  obtain ⟨cl, A1, A2, A3⟩ := A
  obtain ⟨q1, q2⟩ := own_idx A2 hj (own_lt_len hv)
  exact X.laload hx (by rw [eT]; exact A1.1) (State.isArrayOf_alike hZ.alike A1.2.1) A1.2.2 q1 (by rw [q2, own_at A2]; exact hv) hg hs hd
theorem own_ldB (X : Stand p l e R s m args below meth c T locs cells slots) (hx : p.tables.exec = Jvm.exec) (hZ : Z.Warmed39 s.vm) (eT : T.heap = h) (A : AL Z h a .byte xs) {j : Int32} (i : Nat) (hj : j.toInt = i) (hv : xs[i]? = some v) {g : JFrame} (hg : g.method = m) {rest : List Value} (hs : g.stack = .int j :: .ref a :: rest) (hd : decode c.code g.pc = .ok (.baload, 1)) :
    ∀ target, Steps p.tables e below (T.setTop { g with pc := g.pc + 1, stack := v :: rest }) target → Steps p.tables e below (T.setTop g) target := by
  obtain ⟨cl, A1, A2, A3⟩ := A
  obtain ⟨q1, q2⟩ := own_idx A2 hj (own_lt_len hv)
  exact X.baloadBytes hx (by rw [eT]; exact A1.1) (State.isArrayOf_alike hZ.alike A1.2.1) A1.2.2 q1 (by rw [q2, own_at A2]; exact hv) hg hs hd
theorem own_ldZ (X : Stand p l e R s m args below meth c T locs cells slots) (hx : p.tables.exec = Jvm.exec) (hZ : Z.Warmed39 s.vm) (eT : T.heap = h) (A : AL Z h a .boolean xs) {j : Int32} (i : Nat) (hj : j.toInt = i) (hv : xs[i]? = some v) {g : JFrame} (hg : g.method = m) {rest : List Value} (hs : g.stack = .int j :: .ref a :: rest) (hd : decode c.code g.pc = .ok (.baload, 1)) :
    ∀ target, Steps p.tables e below (T.setTop { g with pc := g.pc + 1, stack := v :: rest }) target → Steps p.tables e below (T.setTop g) target := by
  obtain ⟨cl, A1, A2, A3⟩ := A
  obtain ⟨q1, q2⟩ := own_idx A2 hj (own_lt_len hv)
  exact X.baloadBooleans hx (by rw [eT]; exact A1.1) (State.isArrayOf_alike hZ.alike A1.2.1) A1.2.2 q1 (by rw [q2, own_at A2]; exact hv) hg hs hd
theorem own_ldC (X : Stand p l e R s m args below meth c T locs cells slots) (hx : p.tables.exec = Jvm.exec) (hZ : Z.Warmed39 s.vm) (eT : T.heap = h) (A : AL Z h a .char xs) {j : Int32} (i : Nat) (hj : j.toInt = i) (hv : xs[i]? = some v) {g : JFrame} (hg : g.method = m) {rest : List Value} (hs : g.stack = .int j :: .ref a :: rest) (hd : decode c.code g.pc = .ok (.caload, 1)) :
    ∀ target, Steps p.tables e below (T.setTop { g with pc := g.pc + 1, stack := v :: rest }) target → Steps p.tables e below (T.setTop g) target := by
  obtain ⟨cl, A1, A2, A3⟩ := A
  obtain ⟨q1, q2⟩ := own_idx A2 hj (own_lt_len hv)
  exact X.caload hx (by rw [eT]; exact A1.1) (State.isArrayOf_alike hZ.alike A1.2.1) A1.2.2 q1 (by rw [q2, own_at A2]; exact hv) hg hs hd
theorem own_ldA (X : Stand p l e R s m args below meth c T locs cells slots) (hx : p.tables.exec = Jvm.exec) (hZ : Z.Warmed39 s.vm) (eT : T.heap = h) (A : AL Z h a ty xs) (hty : ty.isReference = true) {j : Int32} (i : Nat) (hj : j.toInt = i) (hv : xs[i]? = some v) {g : JFrame} (hg : g.method = m) {rest : List Value} (hs : g.stack = .int j :: .ref a :: rest) (hd : decode c.code g.pc = .ok (.aaload, 1)) :
    ∀ target, Steps p.tables e below (T.setTop { g with pc := g.pc + 1, stack := v :: rest }) target → Steps p.tables e below (T.setTop g) target := by
  obtain ⟨cl, A1, A2, A3⟩ := A
  obtain ⟨q1, q2⟩ := own_idx A2 hj (own_lt_len hv)
  exact X.aaload hx (by rw [eT]; exact A1.1) (State.isArrayOf_alike hZ.alike A1.2.1) hty A1.2.2 q1 (by rw [q2, own_at A2]; exact hv) hg hs hd
theorem own_len (X : Stand p l e R s m args below meth c T locs cells slots) (hx : p.tables.exec = Jvm.exec) (hZ : Z.Warmed39 s.vm) (eT : T.heap = h) (A : AL Z h a ty xs) {z : Int32} (hz : z.toInt = xs.length) {g : JFrame} (hg : g.method = m) {rest : List Value} (hs : g.stack = .ref a :: rest) (hd : decode c.code g.pc = .ok (.arraylength, 1)) :
    ∀ target, Steps p.tables e below (T.setTop { g with pc := g.pc + 1, stack := .int z :: rest }) target → Steps p.tables e below (T.setTop g) target := by
  obtain ⟨cl, A1, A2, A3⟩ := A
  have h2 : cl.slots.size = xs.length := by rw [← A2]; simp
  have e1 : cl.slots.size.toInt32 = z := Int32.toInt_inj.mp (by rw [len_toInt (by omega), hz, h2])
  intro target k
  exact X.arraylength hx (by rw [eT]; exact A1.1) (State.isArrayOf_alike hZ.alike A1.2.1) hg hs hd target (by rw [e1]; exact k)
end Own

theorem own_nar1 : nar .boolean (1 : Int32) = 1 := rfl
theorem own_nar0 : nar .boolean (0 : Int32) = 0 := rfl
def own_pick (raw : Int64) (sel : Int32) (room : Int64) : Int64 := if sel &&& 3 = 0 then raw &&& 4611686018427387903 else if sel &&& 3 = 1 then (raw &&& 9223372036854775807) % (room + 1) else if sel &&& 3 = 2 then room else room + 1 + (raw &&& 255)
def own_res (r f bud : Int64) : Int32 := if bud / 4 < r + f then 0 else 1
def own_nr (r f bud : Int64) : Int64 := if bud / 4 < r + f then r else r + f
theorem own_bud {b bud : Int64} {c : Prop} [Decidable c] (h : bud = if c then b &&& 9223372036854775807 else b &&& 255) : 0 ≤ bud.toInt := by
  have h1 := c_maskL b 9223372036854775807 63 (by decide) (by decide)
  have h2 := c_maskL b 255 8 (by decide) (by decide)
  have e1 : ((2 ^ 63 : Nat) : Int) = 9223372036854775808 := rfl
  have e2 : ((2 ^ 8 : Nat) : Int) = 256 := rfl
  rw [e1] at h1; rw [e2] at h2
  by_cases q : c
  · rw [if_pos q] at h; rw [h]; omega
  · rw [if_neg q] at h; rw [h]; omega
/-- what is known of bud / 4 and of what is reserved -/
def OwnIn (r q : Int64) : Prop := 0 ≤ r.toInt ∧ r.toInt ≤ q.toInt ∧ q.toInt ≤ 2305843009213693951
theorem own_q {bud qq : Int64} (h : 0 ≤ bud.toInt) (hq : qq = bud / 4) : OwnIn 0 qq := by
  have h1 := (c_ldiv bud 4 4 rfl (by decide)).1 h
  have h2 := bud.toInt_lt
  have e0 : (0 : Int64).toInt = 0 := rfl
  subst hq
  unfold OwnIn
  omega
theorem own_sub {r q : Int64} (h : OwnIn r q) : (q - r).toInt = q.toInt - r.toInt := by
  obtain ⟨h1, h2, h3⟩ := h
  have a := c_lsub q r
  have b1 := (q - r).toInt_lt; have b2 := (q - r).le_toInt
  omega
theorem own_room {r q : Int64} (h : OwnIn r q) : q - r + 1 ≠ 0 := fun e => by
  have hs := own_sub h
  obtain ⟨h1, h2, h3⟩ := h
  have a := c_ladd (q - r) 1
  have e1 : (1 : Int64).toInt = 1 := rfl
  have e0 : (0 : Int64).toInt = 0 := rfl
  rw [e] at a
  omega
theorem own_pk {raw f r q : Int64} {sel : Int32} (h : OwnIn r q) (hf : f = own_pick raw sel (q - r)) : 0 ≤ f.toInt ∧ f.toInt < 4611686018427387904 := by
  have hs := own_sub h
  obtain ⟨h1, h2, h3⟩ := h
  have m1 := c_maskL raw 4611686018427387903 62 (by decide) (by decide)
  have m2 := c_maskL raw 9223372036854775807 63 (by decide) (by decide)
  have m3 := c_maskL raw 255 8 (by decide) (by decide)
  have e1 : ((2 ^ 62 : Nat) : Int) = 4611686018427387904 := rfl
  have e2 : ((2 ^ 63 : Nat) : Int) = 9223372036854775808 := rfl
  have e3 : ((2 ^ 8 : Nat) : Int) = 256 := rfl
  rw [e1] at m1; rw [e2] at m2; rw [e3] at m3
  have o1 : (1 : Int64).toInt = 1 := rfl
  have a := c_ladd (q - r) 1
  have a1 := (q - r + 1).toInt_lt; have a2 := (q - r + 1).le_toInt
  unfold own_pick at hf
  by_cases c0 : sel &&& 3 = 0
  · rw [if_pos c0] at hf; rw [hf]; omega
  · rw [if_neg c0] at hf
    by_cases c1 : sel &&& 3 = 1
    · rw [if_pos c1] at hf
      have k1 : ((raw &&& 9223372036854775807) % (q - r + 1)).toInt = (raw &&& 9223372036854775807).toInt % (q - r + 1).toInt := by
        have := (c_lrem (raw &&& 9223372036854775807) (q - r + 1) (q - r + 1).toInt rfl).1 (by omega)
        rwa [lrem_mod] at this
      have k2 := Int.emod_nonneg (raw &&& 9223372036854775807).toInt (show (q - r + 1).toInt ≠ 0 by omega)
      have k3 := Int.emod_lt_of_pos (raw &&& 9223372036854775807).toInt (show 0 < (q - r + 1).toInt by omega)
      rw [hf, k1]; omega
    · rw [if_neg c1] at hf
      by_cases c2 : sel &&& 3 = 2
      · rw [if_pos c2] at hf; rw [hf]; omega
      · rw [if_neg c2] at hf
        have b := c_ladd (q - r + 1) (raw &&& 255)
        have b1 := (q - r + 1 + (raw &&& 255)).toInt_lt; have b2 := (q - r + 1 + (raw &&& 255)).le_toInt
        rw [hf]; omega
theorem own_iff {r q f : Int64} (h : OwnIn r q) (hf : 0 ≤ f.toInt ∧ f.toInt < 4611686018427387904) : (r + f).toInt = r.toInt + f.toInt ∧ (q - r < f ↔ q < r + f) := by
  have hs := own_sub h
  obtain ⟨h1, h2, h3⟩ := h
  have a := c_ladd r f
  have a1 := (r + f).toInt_lt; have a2 := (r + f).le_toInt
  have e : (r + f).toInt = r.toInt + f.toInt := by omega
  refine ⟨e, ?_⟩
  rw [Int64.lt_iff_toInt_lt, Int64.lt_iff_toInt_lt, e, hs]
  omega
theorem own_ge {r q f bud : Int64} {ee : Int32} (h : OwnIn r q) (hq : q = bud / 4) (hf : 0 ≤ f.toInt ∧ f.toInt < 4611686018427387904) (he : ee = if q - r < f then 0 else 1) : own_res r f bud = ee := by
  unfold own_res; rw [← hq, he]
  by_cases c : q - r < f
  · rw [if_pos c, if_pos ((own_iff h hf).2.mp c)]
  · rw [if_neg c, if_neg (fun k => c ((own_iff h hf).2.mpr k))]
theorem own_nrEq {r q f bud r2 : Int64} {ee : Int32} (h : OwnIn r q) (hq : q = bud / 4) (hf : 0 ≤ f.toInt ∧ f.toInt < 4611686018427387904) (he : ee = if q - r < f then 0 else 1) (h2 : r2 = if ee = 0 then r else r + f) : own_nr r f bud = r2 := by
  unfold own_nr; rw [← hq, h2, he]
  by_cases c : q - r < f
  · rw [if_pos c, if_pos ((own_iff h hf).2.mp c), if_pos rfl]
  · rw [if_neg c, if_neg (fun k => c ((own_iff h hf).2.mpr k)), if_neg (by decide)]
theorem own_inv {r q f r2 : Int64} {ee : Int32} (h : OwnIn r q) (hf : 0 ≤ f.toInt ∧ f.toInt < 4611686018427387904) (he : ee = if q - r < f then 0 else 1) (h2 : r2 = if ee = 0 then r else r + f) : OwnIn r2 q := by
  have k := own_iff h hf
  have hs := own_sub h
  rw [h2, he]
  by_cases c : q - r < f
  · rw [if_pos c, if_pos rfl]; exact h
  · rw [if_neg c, if_neg (by decide)]
    have c' : ¬ q < r + f := fun z => c (k.2.mpr z)
    rw [Int64.lt_iff_toInt_lt] at c'
    obtain ⟨h1, h2, h3⟩ := h
    exact ⟨by rw [k.1]; omega, by omega, h3⟩
theorem own_nrz {r f bud : Int64} {z : Int32} (h : z = own_res r f bud) (h0 : ¬ z = 0) : r + f = own_nr r f bud := by
  unfold own_res at h; unfold own_nr
  by_cases c : bud / 4 < r + f
  · rw [if_pos c] at h; exact absurd h h0
  · rw [if_neg c]
theorem own_nrz0 {r f bud : Int64} {z : Int32} (h : z = own_res r f bud) (h0 : z = 0) : r = own_nr r f bud := by
  unfold own_res at h; unfold own_nr
  by_cases c : bud / 4 < r + f
  · rw [if_pos c]
  · rw [if_neg c] at h; rw [h] at h0; exact absurd h0 (by decide)
theorem own_z1 {r f bud : Int64} : nar .boolean (own_res r f bud) = own_res r f bud := by
  unfold own_res
  by_cases c : bud / 4 < r + f
  · rw [if_pos c]; rfl
  · rw [if_neg c]; rfl
theorem d4_0 : decode jdk_22_method_1_code 0 = .ok (.aload_n 0, 1) := by decide +kernel
theorem d4_1 : decode jdk_22_method_1_code 1 = .ok (.invokespecial 1, 3) := by decide +kernel
theorem d4_4 : decode jdk_22_method_1_code 4 = .ok (.return_, 1) := by decide +kernel
theorem pn_0 : plainName "java/util/AbstractCollection" = true := by first | (simp [plainName, overriddenIn]; done) | decide +kernel
theorem ef_4 (m : MethodId) (a0 : Addr) : entryFrame m #[(.ref a0)] 1 = mkF m 0 #[.val (.ref a0)] [] := by first | (simp [entryFrame, mkF, argsToLocals, Value.category]; done) | rfl
def Q4 (Z : State) (a0 : Addr) (h0 : Heap) (n0 : Nat) (v : Option Value) (h : Heap) (L : List Loc) : Prop := v = none ∧ Fr n0 L ∧ h = h0
set_option maxRecDepth 65536 in
set_option maxHeartbeats 40000000 in
theorem rm4 (l : Launch) (Z : State) (aw : Array Value) (hw : ∀ d ∈ tables_1, d.before aw Z = true) (ws : List Jvm.Cond) (a0 : Addr) (h0 : Heap) (n0 : Nat) (Z0 : n0 ≤ h0.size) :
    MetFree l (⟨"java/util/AbstractCollection", "<init>", "()V"⟩ : MethodName) (head1 (Jvm.Cond.code (⟨"java/util/AbstractCollection", "<init>", "()V"⟩ : MethodName) jdk_22_method_1_code 1 none :: ws) ({ frames := 1, cells := 0, slots := 0, locals := 12 } : Room)) (fun a U => a = #[(.ref a0)] ∧ Z.Warmed39 U.vm ∧ U.heap = h0) (fun _ _ _ _ _ => True) (fun _ U o U' => ∃ v L, o = .returned v ∧ Q4 Z a0 h0 n0 v U'.heap L ∧ FrameEnd U o U' L ({ frames := 1, cells := 0, slots := 0, locals := 12 } : Room).cells ({ frames := 1, cells := 0, slots := 0, locals := 12 } : Room).slots) := by
  refine MetFree.of_bodySF (plainFor_of_name pn_0) hisR ?_
  intro p e s m args below meth c s₁ Bd hml0 hP hK
  obtain ⟨rfl, hZ, hh⟩ := hP
  have hx := Bd.exec
  have hby := Bd.bytes
  have hml : c.maxLocals = 1 := hml0
  have hown : s.vm.findClass "java/util/AbstractCollection" = some m.cls := findClass_of_methodNamed Bd.named
  have hnm := (name_of_methodNamed Bd.named Bd.method).1
  have hlk : meth.locks = false := Bd.notSynchronized
  have X0 : Stand p l e ({ frames := 1, cells := 0, slots := 0, locals := 12 } : Room) s m #[(.ref a0)] below meth c s₁ [] 0 0 := Stand.of_body Bd
  have e0 : s₁.heap = h0 := by rw [← hh, Bd.state]; rfl
  have N0 := Fr.nil n0
  show OwnEnds p.tables e below (OwnQ s ({ frames := 1, cells := 0, slots := 0, locals := 12 } : Room).cells ({ frames := 1, cells := 0, slots := 0, locals := 12 } : Room).slots (Q4 Z a0 h0 n0)) (s₁.setTop (entryFrame m #[(.ref a0)] 1))
  refine own_via (fun t k => castTop (ef_4 m a0) k) ?_
  show OwnEnds p.tables e below _ (s₁.setTop (mkF m 0 #[.val (.ref a0)] []))
  refine own_via (fun t k => XS.aloadN X0.here hx rfl (hb hby d4_0) rfl rfl k) ?_
  show OwnEnds p.tables e below _ (s₁.setTop (mkF m 1 #[.val (.ref a0)] [(.ref a0)]))
  obtain ⟨T1, X1, e1, st1⟩ := initO X0 hx hZ hown (hw _ (List.mem_of_getElem? (i := 22) rfl)) (hw _ (List.mem_of_getElem? (i := 8) rfl)) (hw _ (List.mem_of_getElem? (i := 9) rfl)) e0 (g := (mkF m 1 #[.val (.ref a0)] [(.ref a0)])) rfl (by rw [hml]; rfl) rfl (hb hby d4_1) (by decide) (W := 0) (by show 2 * 0 + _ ≤ _; exact Nat.le_of_eq rfl) (by decide)
  refine own_via st1 ?_
  show OwnEnds p.tables e below _ (T1.setTop (mkF m 4 #[.val (.ref a0)] []))
  refine own_retV X1 hx Bd.returns hlk (hb hby d4_4) ?_ (by decide) (by decide)
  rw [e1]
  exact ⟨rfl, N0, rfl⟩
theorem d3_0 : decode jdk_21_method_3_code 0 = .ok (.aload_n 0, 1) := by decide +kernel
theorem d3_1 : decode jdk_21_method_3_code 1 = .ok (.invokespecial 42, 3) := by decide +kernel
theorem d3_4 : decode jdk_21_method_3_code 4 = .ok (.aload_n 0, 1) := by decide +kernel
theorem d3_5 : decode jdk_21_method_3_code 5 = .ok (.bipush 17, 2) := by decide +kernel
theorem d3_7 : decode jdk_21_method_3_code 7 = .ok (.anewarray 47, 3) := by decide +kernel
theorem d3_10 : decode jdk_21_method_3_code 10 = .ok (.putfield 3, 3) := by decide +kernel
theorem d3_13 : decode jdk_21_method_3_code 13 = .ok (.return_, 1) := by decide +kernel
theorem pn_1 : plainName "java/util/ArrayDeque" = true := by first | (simp [plainName, overriddenIn]; done) | decide +kernel
theorem ef_3 (m : MethodId) (a0 : Addr) : entryFrame m #[(.ref a0)] 1 = mkF m 0 #[.val (.ref a0)] [] := by first | (simp [entryFrame, mkF, argsToLocals, Value.category]; done) | rfl
def Q3 (Z : State) (a0 : Addr) (h0 : Heap) (n0 : Nat) (v : Option Value) (h : Heap) (L : List Loc) : Prop := v = none ∧ Fr n0 L ∧ Keep h0 h [a0]
theorem pd_0 : parseMethodDescriptor "()V" = some ⟨[], none⟩ := by decide +kernel
set_option maxRecDepth 65536 in
set_option maxHeartbeats 40000000 in
theorem rm3 (l : Launch) (Z : State) (aw : Array Value) (hw : ∀ d ∈ tables_1, d.before aw Z = true) (ws : List Jvm.Cond) (a0 : Addr) (h0 : Heap) (n0 : Nat) (Z0 : n0 ≤ h0.size) (E_a0 : Exa Z h0 a0 "java/util/ArrayDeque") (F_elements_a0 : Fld Z h0 a0 "java/util/ArrayDeque" "elements" "[Ljava/lang/Object;" .null) (g_a0 : n0 ≤ a0) :
    MetFree l (⟨"java/util/ArrayDeque", "<init>", "()V"⟩ : MethodName) (head1 (Jvm.Cond.code (⟨"java/util/ArrayDeque", "<init>", "()V"⟩ : MethodName) jdk_21_method_3_code 1 none :: ws) ({ frames := 2, cells := 1, slots := 17, locals := 24 } : Room)) (fun a U => a = #[(.ref a0)] ∧ Z.Warmed39 U.vm ∧ U.heap = h0) (fun _ _ _ _ _ => True) (fun _ U o U' => ∃ v L, o = .returned v ∧ Q3 Z a0 h0 n0 v U'.heap L ∧ FrameEnd U o U' L ({ frames := 2, cells := 1, slots := 17, locals := 24 } : Room).cells ({ frames := 2, cells := 1, slots := 17, locals := 24 } : Room).slots) := by
  refine MetFree.of_bodySF (plainFor_of_name pn_1) hisR ?_
  intro p e s m args below meth c s₁ Bd hml0 hP hK
  obtain ⟨rfl, hZ, hh⟩ := hP
  have hx := Bd.exec
  have hby := Bd.bytes
  have hml : c.maxLocals = 1 := hml0
  have hown : s.vm.findClass "java/util/ArrayDeque" = some m.cls := findClass_of_methodNamed Bd.named
  have hnm := (name_of_methodNamed Bd.named Bd.method).1
  have hlk : meth.locks = false := Bd.notSynchronized
  have X0 : Stand p l e ({ frames := 2, cells := 1, slots := 17, locals := 24 } : Room) s m #[(.ref a0)] below meth c s₁ [] 0 0 := Stand.of_body Bd
  have e0 : s₁.heap = h0 := by rw [← hh, Bd.state]; rfl
  have N0 := Fr.nil n0
  show OwnEnds p.tables e below (OwnQ s ({ frames := 2, cells := 1, slots := 17, locals := 24 } : Room).cells ({ frames := 2, cells := 1, slots := 17, locals := 24 } : Room).slots (Q3 Z a0 h0 n0)) (s₁.setTop (entryFrame m #[(.ref a0)] 1))
  refine own_via (fun t k => castTop (ef_3 m a0) k) ?_
  show OwnEnds p.tables e below _ (s₁.setTop (mkF m 0 #[.val (.ref a0)] []))
  have K0 : Keep h0 h0 [a0] := Keep.refl _ _
  refine own_via (fun t k => XS.aloadN X0.here hx rfl (hb hby d3_0) rfl rfl k) ?_
  show OwnEnds p.tables e below _ (s₁.setTop (mkF m 1 #[.val (.ref a0)] [(.ref a0)]))
  obtain ⟨_, _, ⟨T1, L1, k1, n1⟩, -, X1, ⟨Lc1, hQ1, l1, y1, z1⟩, st1⟩ := X0.specialBack hx (y := (⟨"java/util/AbstractCollection", "<init>", "()V"⟩ : MethodName)) rfl hown (mvT hZ (hw _ (List.mem_of_getElem? (i := 16) rfl))) (mvT hZ (hw _ (List.mem_of_getElem? (i := 17) rfl))) (mvT hZ (hw _ (List.mem_of_getElem? (i := 21) rfl))) (by decide) (backOf (W := 0) (rm4 l Z aw hw [] a0 h0 n0 Z0 ) hZ (hw _ (List.mem_of_getElem? (i := 21) rfl)) (hw _ (List.mem_of_getElem? (i := 20) rfl)) (by decide) (by decide)) (g := (mkF m 1 #[.val (.ref a0)] [(.ref a0)])) rfl (by rw [hml]; rfl) (Steps.refl _) (a := a0) (argsL := []) (rest := []) (lenOf pd_0 rfl) rfl (by show 2 * 0 + _ ≤ _; exact Nat.le_of_eq rfl) (hb hby d3_1) (fun _ _ => ⟨rfl, e0, (by decide : 0 + 0 ≤ _), (by decide : 0 + 0 ≤ _)⟩)
  dsimp only [Pt.U, Pt.locs, Pt.cells, Pt.slots] at X1 l1 y1 z1 st1 hQ1
  subst l1 y1 z1
  obtain ⟨rfl, Nq1, e1⟩ := hQ1
  have N1 := Fr.app N0 Nq1
  replace e1 : T1.heap = h0 := e1
  refine own_of st1 ?_
  show OwnEnds p.tables e below _ (T1.setTop (mkF m 4 #[.val (.ref a0)] []))
  refine own_via (fun t k => XS.aloadN X1.here hx rfl (hb hby d3_4) rfl rfl k) ?_
  show OwnEnds p.tables e below _ (T1.setTop (mkF m 5 #[.val (.ref a0)] [(.ref a0)]))
  refine own_via (fun t k => XS.bipush X1.here hx rfl (hb hby d3_5) k) ?_
  show OwnEnds p.tables e below _ (T1.setTop (mkF m 7 #[.val (.ref a0)] [(.int (17 : Int32)), (.ref a0)]))
  obtain ⟨T2, h2, k2, X2, e2, E2, A2, O2, st2⟩ := newR X1 hx hZ hown (hw _ (List.mem_of_getElem? (i := 23) rfl)) (hw _ (List.mem_of_getElem? (i := 24) rfl)) e1 (g := (mkF m 7 #[.val (.ref a0)] [(.int (17 : Int32)), (.ref a0)])) rfl (hb hby d3_7) rfl (by decide) (cap := 17) (by decide) (by decide) (by decide) (by decide)
  obtain ⟨b2, g2⟩ : ∃ z, z = h0.size := ⟨_, rfl⟩
  rw [← g2] at A2 st2
  have ne_a0_b2 : a0 ≠ b2 := Nat.ne_of_lt (Nat.lt_of_lt_of_le E_a0.lt (Nat.le_of_eq g2.symm))
  have g_b2 : n0 ≤ b2 := Nat.le_trans Z0 (Nat.le_of_eq g2.symm)
  have sz_b2 : h0.size ≤ b2 := Nat.le_trans K0.1 (Nat.le_of_eq g2.symm)
  have Zs_2 : n0 ≤ _ := Nat.le_trans Z0 E2.1
  replace E_a0 := E_a0.ext E2
  replace F_elements_a0 := F_elements_a0.ext E2
  replace K0 := K0.ext E2
  have A_b2 : AL Z h2 b2 (.object "java/lang/Object") (List.replicate 17 .null) := AL.new A2 (by decide) (i := 17) rfl
  refine own_via st2 ?_
  show OwnEnds p.tables e below _ (T2.setTop (mkF m 10 #[.val (.ref a0)] [(.ref b2), (.ref a0)]))
  obtain ⟨T3, h3, X3, e3, W3, st3⟩ := putF X2 hx hZ hown (host := "") (Or.inl (hw _ (List.mem_of_getElem? (i := 25) rfl))) Via.refl e2 F_elements_a0 E_a0 (Or.inl (hw _ (List.mem_of_getElem? (i := 26) rfl))) (hw _ (List.mem_of_getElem? (i := 11) rfl)) (ty := (.array (.object "java/lang/Object"))) (by decide) rfl rfl (g := (mkF m 10 #[.val (.ref a0)] [(.ref b2), (.ref a0)])) rfl rfl (hb hby d3_10)
  replace E_a0 := E_a0.wr W3
  replace F_elements_a0 := F_elements_a0.same W3
  replace A_b2 := A_b2.other W3 (Ne.symm ne_a0_b2)
  replace K0 := K0.wr W3 (Or.inl (List.mem_of_getElem? (i := 0) rfl))
  have Zs_W3 : n0 ≤ _ := Nat.le_trans Zs_2 (Keep.of_wr W3).1
  have N3 := Fr.snoc X3 N1 g_a0
  refine own_via st3 ?_
  show OwnEnds p.tables e below _ (T3.setTop (mkF m 13 #[.val (.ref a0)] []))
  refine own_retV X3 hx Bd.returns hlk (hb hby d3_13) ?_ (by decide) (by decide)
  rw [e3]
  exact ⟨rfl, N3, K0⟩
theorem d1_0 : decode prog_35_method_1_code 0 = .ok (.aload_n 0, 1) := by decide +kernel
theorem d1_1 : decode prog_35_method_1_code 1 = .ok (.invokespecial 1, 3) := by decide +kernel
theorem d1_4 : decode prog_35_method_1_code 4 = .ok (.aload_n 0, 1) := by decide +kernel
theorem d1_5 : decode prog_35_method_1_code 5 = .ok (.new 7, 3) := by decide +kernel
theorem d1_8 : decode prog_35_method_1_code 8 = .ok (.dup, 1) := by decide +kernel
theorem d1_9 : decode prog_35_method_1_code 9 = .ok (.invokespecial 9, 3) := by decide +kernel
theorem d1_12 : decode prog_35_method_1_code 12 = .ok (.putfield 10, 3) := by decide +kernel
theorem d1_15 : decode prog_35_method_1_code 15 = .ok (.aload_n 0, 1) := by decide +kernel
theorem d1_16 : decode prog_35_method_1_code 16 = .ok (.lload_n 1, 1) := by decide +kernel
theorem d1_17 : decode prog_35_method_1_code 17 = .ok (.putfield 16, 3) := by decide +kernel
theorem d1_20 : decode prog_35_method_1_code 20 = .ok (.return_, 1) := by decide +kernel
theorem pn_2 : plainName "com/example/linkstage/linkstage/core/DeclarationCache" = true := by first | (simp [plainName, overriddenIn]; done) | decide +kernel
theorem ef_1 (m : MethodId) (a0 : Addr) (q1 : Int64) : entryFrame m #[(.ref a0), (.long q1)] 3 = mkF m 0 #[.val (.ref a0), .val (.long q1), .second] [] := by first | (simp [entryFrame, mkF, argsToLocals, Value.category]; done) | rfl
def Q1 (Z : State) (a0 : Addr) (q1 : Int64) (h0 : Heap) (n0 : Nat) (v : Option Value) (h : Heap) (L : List Loc) : Prop := v = none ∧ Fr n0 L ∧ Keep h0 h [a0] ∧ Exa Z h a0 "com/example/linkstage/linkstage/core/DeclarationCache" ∧ Fld Z h a0 "com/example/linkstage/linkstage/core/DeclarationCache" "budget" "J" (.long q1) ∧ Fld Z h a0 "com/example/linkstage/linkstage/core/DeclarationCache" "reserved" "J" (.long (0 : Int64))
set_option maxRecDepth 65536 in
set_option maxHeartbeats 40000000 in
theorem rm1 (l : Launch) (Z : State) (aw : Array Value) (hw : ∀ d ∈ tables_1, d.before aw Z = true) (ws : List Jvm.Cond) (a0 : Addr) (q1 : Int64) (h0 : Heap) (n0 : Nat) (Z0 : n0 ≤ h0.size) (E_a0 : Exa Z h0 a0 "com/example/linkstage/linkstage/core/DeclarationCache") (F_kept_a0 : Fld Z h0 a0 "com/example/linkstage/linkstage/core/DeclarationCache" "kept" "Ljava/util/Deque;" .null) (F_budget_a0 : Fld Z h0 a0 "com/example/linkstage/linkstage/core/DeclarationCache" "budget" "J" (.long (0 : Int64))) (F_reserved_a0 : Fld Z h0 a0 "com/example/linkstage/linkstage/core/DeclarationCache" "reserved" "J" (.long (0 : Int64))) (g_a0 : n0 ≤ a0) :
    MetFree l (⟨"com/example/linkstage/linkstage/core/DeclarationCache", "<init>", "(J)V"⟩ : MethodName) (head1 (Jvm.Cond.code (⟨"com/example/linkstage/linkstage/core/DeclarationCache", "<init>", "(J)V"⟩ : MethodName) prog_35_method_1_code 3 none :: ws) ({ frames := 3, cells := 2, slots := 20, locals := 38 } : Room)) (fun a U => a = #[(.ref a0), (.long q1)] ∧ Z.Warmed39 U.vm ∧ U.heap = h0) (fun _ _ _ _ _ => True) (fun _ U o U' => ∃ v L, o = .returned v ∧ Q1 Z a0 q1 h0 n0 v U'.heap L ∧ FrameEnd U o U' L ({ frames := 3, cells := 2, slots := 20, locals := 38 } : Room).cells ({ frames := 3, cells := 2, slots := 20, locals := 38 } : Room).slots) := by
  refine MetFree.of_bodySF (plainFor_of_name pn_2) hisR ?_
  intro p e s m args below meth c s₁ Bd hml0 hP hK
  obtain ⟨rfl, hZ, hh⟩ := hP
  have hx := Bd.exec
  have hby := Bd.bytes
  have hml : c.maxLocals = 3 := hml0
  have hown : s.vm.findClass "com/example/linkstage/linkstage/core/DeclarationCache" = some m.cls := findClass_of_methodNamed Bd.named
  have hnm := (name_of_methodNamed Bd.named Bd.method).1
  have hlk : meth.locks = false := Bd.notSynchronized
  have X0 : Stand p l e ({ frames := 3, cells := 2, slots := 20, locals := 38 } : Room) s m #[(.ref a0), (.long q1)] below meth c s₁ [] 0 0 := Stand.of_body Bd
  have e0 : s₁.heap = h0 := by rw [← hh, Bd.state]; rfl
  have N0 := Fr.nil n0
  show OwnEnds p.tables e below (OwnQ s ({ frames := 3, cells := 2, slots := 20, locals := 38 } : Room).cells ({ frames := 3, cells := 2, slots := 20, locals := 38 } : Room).slots (Q1 Z a0 q1 h0 n0)) (s₁.setTop (entryFrame m #[(.ref a0), (.long q1)] 3))
  refine own_via (fun t k => castTop (ef_1 m a0 q1) k) ?_
  show OwnEnds p.tables e below _ (s₁.setTop (mkF m 0 #[.val (.ref a0), .val (.long q1), .second] []))
  have K0 : Keep h0 h0 [a0] := Keep.refl _ _
  refine own_via (fun t k => XS.aloadN X0.here hx rfl (hb hby d1_0) rfl rfl k) ?_
  show OwnEnds p.tables e below _ (s₁.setTop (mkF m 1 #[.val (.ref a0), .val (.long q1), .second] [(.ref a0)]))
  obtain ⟨T1, X1, e1, st1⟩ := initO X0 hx hZ hown (hw _ (List.mem_of_getElem? (i := 7) rfl)) (hw _ (List.mem_of_getElem? (i := 8) rfl)) (hw _ (List.mem_of_getElem? (i := 9) rfl)) e0 (g := (mkF m 1 #[.val (.ref a0), .val (.long q1), .second] [(.ref a0)])) rfl (by rw [hml]; rfl) rfl (hb hby d1_1) (by decide) (W := 0) (by show 2 * 0 + _ ≤ _; exact Nat.le_of_eq rfl) (by decide)
  refine own_via st1 ?_
  show OwnEnds p.tables e below _ (T1.setTop (mkF m 4 #[.val (.ref a0), .val (.long q1), .second] []))
  refine own_via (fun t k => XS.aloadN X1.here hx rfl (hb hby d1_4) rfl rfl k) ?_
  show OwnEnds p.tables e below _ (T1.setTop (mkF m 5 #[.val (.ref a0), .val (.long q1), .second] [(.ref a0)]))
  obtain ⟨T2, h2, X2, e2, E2, A2, D2, -, st2⟩ := newO X1 hx hZ hown (hw _ (List.mem_of_getElem? (i := 10) rfl)) (hw _ (List.mem_of_getElem? (i := 11) rfl)) (hw _ (List.mem_of_getElem? (i := 12) rfl)) e1 (g := (mkF m 5 #[.val (.ref a0), .val (.long q1), .second] [(.ref a0)])) rfl (hb hby d1_5) (by decide) (by decide)
  obtain ⟨b2, g2⟩ : ∃ z, z = h0.size := ⟨_, rfl⟩
  rw [← g2] at A2 D2 st2
  have ne_a0_b2 : a0 ≠ b2 := Nat.ne_of_lt (Nat.lt_of_lt_of_le E_a0.lt (Nat.le_of_eq g2.symm))
  have g_b2 : n0 ≤ b2 := Nat.le_trans Z0 (Nat.le_of_eq g2.symm)
  have sz_b2 : h0.size ≤ b2 := Nat.le_trans K0.1 (Nat.le_of_eq g2.symm)
  have Zs_2 : n0 ≤ _ := Nat.le_trans Z0 E2.1
  replace E_a0 := E_a0.ext E2
  replace F_kept_a0 := F_kept_a0.ext E2
  replace F_budget_a0 := F_budget_a0.ext E2
  replace F_reserved_a0 := F_reserved_a0.ext E2
  replace K0 := K0.ext E2
  have E_b2 := A2
  have F_elements_b2 : Fld Z h2 b2 "java/util/ArrayDeque" "elements" "[Ljava/lang/Object;" .null := D2 (Or.inl (hw _ (List.mem_of_getElem? (i := 26) rfl))) (ty := (.array (.object "java/lang/Object"))) (by decide)
  refine own_via st2 ?_
  show OwnEnds p.tables e below _ (T2.setTop (mkF m 8 #[.val (.ref a0), .val (.long q1), .second] [(.ref b2), (.ref a0)]))
  refine own_via (fun t k => XS.dup X2.here hx rfl (hb hby d1_8) rfl rfl k) ?_
  show OwnEnds p.tables e below _ (T2.setTop (mkF m 9 #[.val (.ref a0), .val (.long q1), .second] [(.ref b2), (.ref b2), (.ref a0)]))
  obtain ⟨_, _, ⟨T3, L3, k3, n3⟩, -, X3, ⟨Lc3, hQ3, l3, y3, z3⟩, st3⟩ := X2.specialBack hx (y := (⟨"java/util/ArrayDeque", "<init>", "()V"⟩ : MethodName)) rfl hown (mvT hZ (hw _ (List.mem_of_getElem? (i := 13) rfl))) (mvT hZ (hw _ (List.mem_of_getElem? (i := 14) rfl))) (mvT hZ (hw _ (List.mem_of_getElem? (i := 15) rfl))) (by decide) (backOf (W := 2) (rm3 l Z aw hw [] b2 h2 n0 Zs_2 E_b2 F_elements_b2 g_b2) hZ (hw _ (List.mem_of_getElem? (i := 15) rfl)) (hw _ (List.mem_of_getElem? (i := 12) rfl)) (by decide) (by decide)) (g := (mkF m 9 #[.val (.ref a0), .val (.long q1), .second] [(.ref b2), (.ref b2), (.ref a0)])) rfl (by rw [hml]; rfl) (Steps.refl _) (a := b2) (argsL := []) (rest := [(.ref b2), (.ref a0)]) (lenOf pd_0 rfl) rfl (by show 2 * 0 + _ ≤ _; exact Nat.le_of_eq rfl) (hb hby d1_9) (fun _ _ => ⟨rfl, e2, (by decide : 1 + 1 ≤ _), (by decide : 3 + 17 ≤ _)⟩)
  dsimp only [Pt.U, Pt.locs, Pt.cells, Pt.slots] at X3 l3 y3 z3 st3 hQ3
  subst l3 y3 z3
  obtain ⟨h3, e3⟩ : ∃ z, T3.heap = z := ⟨_, rfl⟩
  rw [e3] at hQ3
  obtain ⟨rfl, Nq3, K3⟩ := hQ3
  have N3 := Fr.app N0 Nq3
  replace E_a0 := E_a0.keep K3
  replace F_kept_a0 := F_kept_a0.keep K3 (ninS ne_a0_b2 nin0)
  replace F_budget_a0 := F_budget_a0.keep K3 (ninS ne_a0_b2 nin0)
  replace F_reserved_a0 := F_reserved_a0.keep K3 (ninS ne_a0_b2 nin0)
  replace E_b2 := E_b2.keep K3
  replace K0 := K0.trans K3 (allS (Or.inr sz_b2) all0)
  have Zs_3 : n0 ≤ _ := Nat.le_trans Zs_2 K3.1
  refine own_of st3 ?_
  show OwnEnds p.tables e below _ (T3.setTop (mkF m 12 #[.val (.ref a0), .val (.long q1), .second] [(.ref b2), (.ref a0)]))
  obtain ⟨T4, h4, X4, e4, W4, st4⟩ := putF X3 hx hZ hown (host := "") (Or.inl (hw _ (List.mem_of_getElem? (i := 27) rfl))) Via.refl e3 F_kept_a0 E_a0 (Or.inr ⟨(hw _ (List.mem_of_getElem? (i := 28) rfl)), rfl, hnm⟩) (hw _ (List.mem_of_getElem? (i := 2) rfl)) (ty := (.object "java/util/Deque")) (by decide) rfl rfl (g := (mkF m 12 #[.val (.ref a0), .val (.long q1), .second] [(.ref b2), (.ref a0)])) rfl rfl (hb hby d1_12)
  replace E_a0 := E_a0.wr W4
  replace F_kept_a0 := F_kept_a0.same W4
  replace F_budget_a0 := F_budget_a0.other W4 (Or.inr (slot_ne (Or.inr (hw _ (List.mem_of_getElem? (i := 30) rfl))) (Or.inr (hw _ (List.mem_of_getElem? (i := 28) rfl))) (by decide) (t := .long) (t' := (.object "java/util/Deque")) (by decide) (by decide)))
  replace F_reserved_a0 := F_reserved_a0.other W4 (Or.inr (slot_ne (Or.inl (hw _ (List.mem_of_getElem? (i := 43) rfl))) (Or.inr (hw _ (List.mem_of_getElem? (i := 28) rfl))) (by decide) (t := .long) (t' := (.object "java/util/Deque")) (by decide) (by decide)))
  replace E_b2 := E_b2.wr W4
  replace K0 := K0.wr W4 (Or.inl (List.mem_of_getElem? (i := 0) rfl))
  have Zs_W4 : n0 ≤ _ := Nat.le_trans Zs_3 (Keep.of_wr W4).1
  have N4 := Fr.snoc X4 N3 g_a0
  refine own_via st4 ?_
  show OwnEnds p.tables e below _ (T4.setTop (mkF m 15 #[.val (.ref a0), .val (.long q1), .second] []))
  refine own_via (fun t k => XS.aloadN X4.here hx rfl (hb hby d1_15) rfl rfl k) ?_
  show OwnEnds p.tables e below _ (T4.setTop (mkF m 16 #[.val (.ref a0), .val (.long q1), .second] [(.ref a0)]))
  refine own_via (fun t k => XS.lloadN X4.here hx rfl (hb hby d1_16) rfl k) ?_
  show OwnEnds p.tables e below _ (T4.setTop (mkF m 17 #[.val (.ref a0), .val (.long q1), .second] [(.long q1), (.ref a0)]))
  obtain ⟨T5, h5, X5, e5, W5, st5⟩ := putF X4 hx hZ hown (host := "") (Or.inl (hw _ (List.mem_of_getElem? (i := 29) rfl))) Via.refl e4 F_budget_a0 E_a0 (Or.inr ⟨(hw _ (List.mem_of_getElem? (i := 30) rfl)), rfl, hnm⟩) (hw _ (List.mem_of_getElem? (i := 2) rfl)) (ty := .long) (by decide) rfl rfl (g := (mkF m 17 #[.val (.ref a0), .val (.long q1), .second] [(.long q1), (.ref a0)])) rfl rfl (hb hby d1_17)
  replace E_a0 := E_a0.wr W5
  replace F_kept_a0 := F_kept_a0.other W5 (Or.inr (slot_ne (Or.inr (hw _ (List.mem_of_getElem? (i := 28) rfl))) (Or.inr (hw _ (List.mem_of_getElem? (i := 30) rfl))) (by decide) (t := (.object "java/util/Deque")) (t' := .long) (by decide) (by decide)))
  replace F_budget_a0 := F_budget_a0.same W5
  replace F_reserved_a0 := F_reserved_a0.other W5 (Or.inr (slot_ne (Or.inl (hw _ (List.mem_of_getElem? (i := 43) rfl))) (Or.inr (hw _ (List.mem_of_getElem? (i := 30) rfl))) (by decide) (t := .long) (t' := .long) (by decide) (by decide)))
  replace E_b2 := E_b2.wr W5
  replace K0 := K0.wr W5 (Or.inl (List.mem_of_getElem? (i := 0) rfl))
  have Zs_W5 : n0 ≤ _ := Nat.le_trans Zs_W4 (Keep.of_wr W5).1
  have N5 := Fr.snoc X5 N4 g_a0
  refine own_via st5 ?_
  show OwnEnds p.tables e below _ (T5.setTop (mkF m 20 #[.val (.ref a0), .val (.long q1), .second] []))
  refine own_retV X5 hx Bd.returns hlk (hb hby d1_20) ?_ (by decide) (by decide)
  rw [e5]
  exact ⟨rfl, N5, K0, E_a0, F_budget_a0, F_reserved_a0⟩
theorem d5_0 : decode method_2_code 0 = .ok (.iload_n 2, 1) := by decide +kernel
theorem d5_1 : decode method_2_code 1 = .ok (.iconst 3, 1) := by decide +kernel
theorem d5_2 : decode method_2_code 2 = .ok (.iand, 1) := by decide +kernel
theorem d5_3 : decode method_2_code 3 = .ok (.istore 5, 2) := by decide +kernel
theorem d5_5 : decode method_2_code 5 = .ok (.iload 5, 2) := by decide +kernel
theorem d5_7 : decode method_2_code 7 = .ok (.ifCond .ne 9, 3) := by decide +kernel
theorem d5_10 : decode method_2_code 10 = .ok (.lload_n 0, 1) := by decide +kernel
theorem d5_11 : decode method_2_code 11 = .ok (.ldc2_w 7, 3) := by decide +kernel
theorem d5_14 : decode method_2_code 14 = .ok (.land, 1) := by decide +kernel
theorem d5_15 : decode method_2_code 15 = .ok (.lreturn, 1) := by decide +kernel
theorem d5_16 : decode method_2_code 16 = .ok (.iload 5, 2) := by decide +kernel
theorem d5_18 : decode method_2_code 18 = .ok (.iconst 1, 1) := by decide +kernel
theorem d5_19 : decode method_2_code 19 = .ok (.if_icmp .ne 13, 3) := by decide +kernel
theorem d5_22 : decode method_2_code 22 = .ok (.lload_n 0, 1) := by decide +kernel
theorem d5_23 : decode method_2_code 23 = .ok (.ldc2_w 11, 3) := by decide +kernel
theorem d5_26 : decode method_2_code 26 = .ok (.land, 1) := by decide +kernel
theorem d5_27 : decode method_2_code 27 = .ok (.lload_n 3, 1) := by decide +kernel
theorem d5_28 : decode method_2_code 28 = .ok (.lconst 1, 1) := by decide +kernel
theorem d5_29 : decode method_2_code 29 = .ok (.ladd, 1) := by decide +kernel
theorem d5_30 : decode method_2_code 30 = .ok (.lrem, 1) := by decide +kernel
theorem d5_31 : decode method_2_code 31 = .ok (.lreturn, 1) := by decide +kernel
theorem d5_32 : decode method_2_code 32 = .ok (.iload 5, 2) := by decide +kernel
theorem d5_34 : decode method_2_code 34 = .ok (.iconst 2, 1) := by decide +kernel
theorem d5_35 : decode method_2_code 35 = .ok (.if_icmp .ne 5, 3) := by decide +kernel
theorem d5_38 : decode method_2_code 38 = .ok (.lload_n 3, 1) := by decide +kernel
theorem d5_39 : decode method_2_code 39 = .ok (.lreturn, 1) := by decide +kernel
theorem d5_40 : decode method_2_code 40 = .ok (.lload_n 3, 1) := by decide +kernel
theorem d5_41 : decode method_2_code 41 = .ok (.lconst 1, 1) := by decide +kernel
theorem d5_42 : decode method_2_code 42 = .ok (.ladd, 1) := by decide +kernel
theorem d5_43 : decode method_2_code 43 = .ok (.lload_n 0, 1) := by decide +kernel
theorem d5_44 : decode method_2_code 44 = .ok (.ldc2_w 13, 3) := by decide +kernel
theorem d5_47 : decode method_2_code 47 = .ok (.land, 1) := by decide +kernel
theorem d5_48 : decode method_2_code 48 = .ok (.ladd, 1) := by decide +kernel
theorem d5_49 : decode method_2_code 49 = .ok (.lreturn, 1) := by decide +kernel
theorem pn_3 : plainName "com/example/linkstage/linkstage/core/DeclarationCacheReservePinLaw" = true := by first | (simp [plainName, overriddenIn]; done) | decide +kernel
theorem ef_5 (m : MethodId) (q0 : Int64) (p1 : Int32) (q2 : Int64) : entryFrame m #[(.long q0), (.int p1), (.long q2)] 6 = mkF m 0 #[.val (.long q0), .second, .val (.int p1), .val (.long q2), .second, .unset] [] := by first | (simp [entryFrame, mkF, argsToLocals, Value.category]; done) | rfl
def Q5 (Z : State) (q0 : Int64) (p1 : Int32) (q2 : Int64) (h0 : Heap) (n0 : Nat) (v : Option Value) (h : Heap) (L : List Loc) : Prop := v = some (.long (own_pick q0 p1 q2)) ∧ Fr n0 L ∧ h = h0
set_option maxRecDepth 65536 in
set_option maxHeartbeats 40000000 in
theorem rm5 (l : Launch) (Z : State) (aw : Array Value) (hw : ∀ d ∈ tables_1, d.before aw Z = true) (ws : List Jvm.Cond) (q0 : Int64) (p1 : Int32) (q2 : Int64) (h0 : Heap) (n0 : Nat) (Z0 : n0 ≤ h0.size) (hnz : q2 + 1 ≠ 0) :
    MetFree l (⟨"com/example/linkstage/linkstage/core/DeclarationCacheReservePinLaw", "pick", "(JIJ)J"⟩ : MethodName) (head1 (Jvm.Cond.code (⟨"com/example/linkstage/linkstage/core/DeclarationCacheReservePinLaw", "pick", "(JIJ)J"⟩ : MethodName) method_2_code 6 (some .long) :: ws) ({ frames := 0, cells := 0, slots := 0, locals := 0 } : Room)) (fun a U => a = #[(.long q0), (.int p1), (.long q2)] ∧ Z.Warmed39 U.vm ∧ U.heap = h0) (fun _ _ _ _ _ => True) (fun _ U o U' => ∃ v L, o = .returned v ∧ Q5 Z q0 p1 q2 h0 n0 v U'.heap L ∧ FrameEnd U o U' L ({ frames := 0, cells := 0, slots := 0, locals := 0 } : Room).cells ({ frames := 0, cells := 0, slots := 0, locals := 0 } : Room).slots) := by
  refine MetFree.of_bodySF (plainFor_of_name pn_3) hisR ?_
  intro p e s m args below meth c s₁ Bd hml0 hP hK
  obtain ⟨rfl, hZ, hh⟩ := hP
  have hx := Bd.exec
  have hby := Bd.bytes
  have hml : c.maxLocals = 6 := hml0
  have hown : s.vm.findClass "com/example/linkstage/linkstage/core/DeclarationCacheReservePinLaw" = some m.cls := findClass_of_methodNamed Bd.named
  have hnm := (name_of_methodNamed Bd.named Bd.method).1
  have hlk : meth.locks = false := Bd.notSynchronized
  have X0 : Stand p l e ({ frames := 0, cells := 0, slots := 0, locals := 0 } : Room) s m #[(.long q0), (.int p1), (.long q2)] below meth c s₁ [] 0 0 := Stand.of_body Bd
  have e0 : s₁.heap = h0 := by rw [← hh, Bd.state]; rfl
  have N0 := Fr.nil n0
  show OwnEnds p.tables e below (OwnQ s ({ frames := 0, cells := 0, slots := 0, locals := 0 } : Room).cells ({ frames := 0, cells := 0, slots := 0, locals := 0 } : Room).slots (Q5 Z q0 p1 q2 h0 n0)) (s₁.setTop (entryFrame m #[(.long q0), (.int p1), (.long q2)] 6))
  refine own_via (fun t k => castTop (ef_5 m q0 p1 q2) k) ?_
  show OwnEnds p.tables e below _ (s₁.setTop (mkF m 0 #[.val (.long q0), .second, .val (.int p1), .val (.long q2), .second, .unset] []))
  refine own_via (fun t k => XS.iloadN X0.here hx rfl (hb hby d5_0) rfl k) ?_
  show OwnEnds p.tables e below _ (s₁.setTop (mkF m 1 #[.val (.long q0), .second, .val (.int p1), .val (.long q2), .second, .unset] [(.int p1)]))
  refine own_via (fun t k => XS.iconst X0.here hx rfl (hb hby d5_1) k) ?_
  show OwnEnds p.tables e below _ (s₁.setTop (mkF m 2 #[.val (.long q0), .second, .val (.int p1), .val (.long q2), .second, .unset] [(.int (3 : Int32)), (.int p1)]))
  refine own_via (fun t k => XS.iand X0.here hx rfl (hb hby d5_2) rfl k) ?_
  show OwnEnds p.tables e below _ (s₁.setTop (mkF m 3 #[.val (.long q0), .second, .val (.int p1), .val (.long q2), .second, .unset] [(.int (p1 &&& (3 : Int32)))]))
  refine own_via (fun t k => XS.istore X0.here hx rfl (hb hby d5_3) rfl (l' := #[.val (.long q0), .second, .val (.int p1), .val (.long q2), .second, .val (.int (p1 &&& (3 : Int32)))]) rfl k) ?_
  show OwnEnds p.tables e below _ (s₁.setTop (mkF m 5 #[.val (.long q0), .second, .val (.int p1), .val (.long q2), .second, .val (.int (p1 &&& (3 : Int32)))] []))
  refine own_via (fun t k => XS.iload X0.here hx rfl (hb hby d5_5) rfl k) ?_
  show OwnEnds p.tables e below _ (s₁.setTop (mkF m 7 #[.val (.long q0), .second, .val (.int p1), .val (.long q2), .second, .val (.int (p1 &&& (3 : Int32)))] [(.int (p1 &&& (3 : Int32)))]))
  by_cases hc7_1 : (p1 &&& (3 : Int32)) = (0 : Int32)
  · skip
    refine own_via (fun t k => XS.ifNo X0.here hx rfl (hb hby d5_7) rfl ((if0 _ _).trans (teq hc7_1).2) k) ?_
    show OwnEnds p.tables e below _ (s₁.setTop (mkF m 10 #[.val (.long q0), .second, .val (.int p1), .val (.long q2), .second, .val (.int (p1 &&& (3 : Int32)))] []))
    refine own_via (fun t k => XS.lloadN X0.here hx rfl (hb hby d5_10) rfl k) ?_
    show OwnEnds p.tables e below _ (s₁.setTop (mkF m 11 #[.val (.long q0), .second, .val (.int p1), .val (.long q2), .second, .val (.int (p1 &&& (3 : Int32)))] [(.long q0)]))
    refine own_via (X0.ldc2Long hx hown (mvT hZ (hw _ (List.mem_of_getElem? (i := 45) rfl))) (g := (mkF m 11 #[.val (.long q0), .second, .val (.int p1), .val (.long q2), .second, .val (.int (p1 &&& (3 : Int32)))] [(.long q0)])) rfl (hb hby d5_11)) ?_
    show OwnEnds p.tables e below _ (s₁.setTop (mkF m 14 #[.val (.long q0), .second, .val (.int p1), .val (.long q2), .second, .val (.int (p1 &&& (3 : Int32)))] [(.long (4611686018427387903 : Int64)), (.long q0)]))
    refine own_via (fun t k => XS.land X0.here hx rfl (hb hby d5_14) rfl k) ?_
    show OwnEnds p.tables e below _ (s₁.setTop (mkF m 15 #[.val (.long q0), .second, .val (.int p1), .val (.long q2), .second, .val (.int (p1 &&& (3 : Int32)))] [(.long (q0 &&& (4611686018427387903 : Int64)))]))
    refine own_retJ X0 hx Bd.returns hlk (hb hby d5_15) ?_ (by decide) (by decide)
    rw [e0]
    exact ⟨congrArg (fun z => some (Value.long z)) (show (q0 &&& (4611686018427387903 : Int64)) = own_pick q0 p1 q2 by simp only [own_pick, if_pos hc7_1]), N0, rfl⟩
  · skip
    refine own_via (fun t k => XS.ifYes X0.here hx rfl (pc0 := 7) (pc' := 16) rfl (hb hby d5_7) rfl ((if0 _ _).trans (feq hc7_1).2) (by decide) (by decide) k) ?_
    show OwnEnds p.tables e below _ (s₁.setTop (mkF m 16 #[.val (.long q0), .second, .val (.int p1), .val (.long q2), .second, .val (.int (p1 &&& (3 : Int32)))] []))
    refine own_via (fun t k => XS.iload X0.here hx rfl (hb hby d5_16) rfl k) ?_
    show OwnEnds p.tables e below _ (s₁.setTop (mkF m 18 #[.val (.long q0), .second, .val (.int p1), .val (.long q2), .second, .val (.int (p1 &&& (3 : Int32)))] [(.int (p1 &&& (3 : Int32)))]))
    refine own_via (fun t k => XS.iconst X0.here hx rfl (hb hby d5_18) k) ?_
    show OwnEnds p.tables e below _ (s₁.setTop (mkF m 19 #[.val (.long q0), .second, .val (.int p1), .val (.long q2), .second, .val (.int (p1 &&& (3 : Int32)))] [(.int (1 : Int32)), (.int (p1 &&& (3 : Int32)))]))
    by_cases hc19_2 : (p1 &&& (3 : Int32)) = (1 : Int32)
    · skip
      refine own_via (fun t k => XS.icmpNo X0.here hx rfl (hb hby d5_19) rfl (teq hc19_2).2 k) ?_
      show OwnEnds p.tables e below _ (s₁.setTop (mkF m 22 #[.val (.long q0), .second, .val (.int p1), .val (.long q2), .second, .val (.int (p1 &&& (3 : Int32)))] []))
      refine own_via (fun t k => XS.lloadN X0.here hx rfl (hb hby d5_22) rfl k) ?_
      show OwnEnds p.tables e below _ (s₁.setTop (mkF m 23 #[.val (.long q0), .second, .val (.int p1), .val (.long q2), .second, .val (.int (p1 &&& (3 : Int32)))] [(.long q0)]))
      refine own_via (X0.ldc2Long hx hown (mvT hZ (hw _ (List.mem_of_getElem? (i := 0) rfl))) (g := (mkF m 23 #[.val (.long q0), .second, .val (.int p1), .val (.long q2), .second, .val (.int (p1 &&& (3 : Int32)))] [(.long q0)])) rfl (hb hby d5_23)) ?_
      show OwnEnds p.tables e below _ (s₁.setTop (mkF m 26 #[.val (.long q0), .second, .val (.int p1), .val (.long q2), .second, .val (.int (p1 &&& (3 : Int32)))] [(.long (9223372036854775807 : Int64)), (.long q0)]))
      refine own_via (fun t k => XS.land X0.here hx rfl (hb hby d5_26) rfl k) ?_
      show OwnEnds p.tables e below _ (s₁.setTop (mkF m 27 #[.val (.long q0), .second, .val (.int p1), .val (.long q2), .second, .val (.int (p1 &&& (3 : Int32)))] [(.long (q0 &&& (9223372036854775807 : Int64)))]))
      refine own_via (fun t k => XS.lloadN X0.here hx rfl (hb hby d5_27) rfl k) ?_
      show OwnEnds p.tables e below _ (s₁.setTop (mkF m 28 #[.val (.long q0), .second, .val (.int p1), .val (.long q2), .second, .val (.int (p1 &&& (3 : Int32)))] [(.long q2), (.long (q0 &&& (9223372036854775807 : Int64)))]))
      refine own_via (fun t k => XS.lconst X0.here hx rfl (hb hby d5_28) k) ?_
      show OwnEnds p.tables e below _ (s₁.setTop (mkF m 29 #[.val (.long q0), .second, .val (.int p1), .val (.long q2), .second, .val (.int (p1 &&& (3 : Int32)))] [(.long (1 : Int64)), (.long q2), (.long (q0 &&& (9223372036854775807 : Int64)))]))
      refine own_via (fun t k => XS.ladd X0.here hx rfl (hb hby d5_29) rfl k) ?_
      show OwnEnds p.tables e below _ (s₁.setTop (mkF m 30 #[.val (.long q0), .second, .val (.int p1), .val (.long q2), .second, .val (.int (p1 &&& (3 : Int32)))] [(.long (q2 + (1 : Int64))), (.long (q0 &&& (9223372036854775807 : Int64)))]))
      refine own_via (fun t k => own_lrem X0 hx rfl (hb hby d5_30) rfl hnz k) ?_
      show OwnEnds p.tables e below _ (s₁.setTop (mkF m 31 #[.val (.long q0), .second, .val (.int p1), .val (.long q2), .second, .val (.int (p1 &&& (3 : Int32)))] [(.long ((q0 &&& (9223372036854775807 : Int64)) % (q2 + (1 : Int64))))]))
      refine own_retJ X0 hx Bd.returns hlk (hb hby d5_31) ?_ (by decide) (by decide)
      rw [e0]
      exact ⟨congrArg (fun z => some (Value.long z)) (show ((q0 &&& (9223372036854775807 : Int64)) % (q2 + (1 : Int64))) = own_pick q0 p1 q2 by simp only [own_pick, if_neg hc7_1, if_pos hc19_2]), N0, rfl⟩
    · skip
      refine own_via (fun t k => XS.icmpYes X0.here hx rfl (pc0 := 19) (pc' := 32) rfl (hb hby d5_19) rfl (feq hc19_2).2 (by decide) (by decide) k) ?_
      show OwnEnds p.tables e below _ (s₁.setTop (mkF m 32 #[.val (.long q0), .second, .val (.int p1), .val (.long q2), .second, .val (.int (p1 &&& (3 : Int32)))] []))
      refine own_via (fun t k => XS.iload X0.here hx rfl (hb hby d5_32) rfl k) ?_
      show OwnEnds p.tables e below _ (s₁.setTop (mkF m 34 #[.val (.long q0), .second, .val (.int p1), .val (.long q2), .second, .val (.int (p1 &&& (3 : Int32)))] [(.int (p1 &&& (3 : Int32)))]))
      refine own_via (fun t k => XS.iconst X0.here hx rfl (hb hby d5_34) k) ?_
      show OwnEnds p.tables e below _ (s₁.setTop (mkF m 35 #[.val (.long q0), .second, .val (.int p1), .val (.long q2), .second, .val (.int (p1 &&& (3 : Int32)))] [(.int (2 : Int32)), (.int (p1 &&& (3 : Int32)))]))
      by_cases hc35_3 : (p1 &&& (3 : Int32)) = (2 : Int32)
      · skip
        refine own_via (fun t k => XS.icmpNo X0.here hx rfl (hb hby d5_35) rfl (teq hc35_3).2 k) ?_
        show OwnEnds p.tables e below _ (s₁.setTop (mkF m 38 #[.val (.long q0), .second, .val (.int p1), .val (.long q2), .second, .val (.int (p1 &&& (3 : Int32)))] []))
        refine own_via (fun t k => XS.lloadN X0.here hx rfl (hb hby d5_38) rfl k) ?_
        show OwnEnds p.tables e below _ (s₁.setTop (mkF m 39 #[.val (.long q0), .second, .val (.int p1), .val (.long q2), .second, .val (.int (p1 &&& (3 : Int32)))] [(.long q2)]))
        refine own_retJ X0 hx Bd.returns hlk (hb hby d5_39) ?_ (by decide) (by decide)
        rw [e0]
        exact ⟨congrArg (fun z => some (Value.long z)) (show q2 = own_pick q0 p1 q2 by simp only [own_pick, if_neg hc7_1, if_neg hc19_2, if_pos hc35_3]), N0, rfl⟩
      · skip
        refine own_via (fun t k => XS.icmpYes X0.here hx rfl (pc0 := 35) (pc' := 40) rfl (hb hby d5_35) rfl (feq hc35_3).2 (by decide) (by decide) k) ?_
        show OwnEnds p.tables e below _ (s₁.setTop (mkF m 40 #[.val (.long q0), .second, .val (.int p1), .val (.long q2), .second, .val (.int (p1 &&& (3 : Int32)))] []))
        refine own_via (fun t k => XS.lloadN X0.here hx rfl (hb hby d5_40) rfl k) ?_
        show OwnEnds p.tables e below _ (s₁.setTop (mkF m 41 #[.val (.long q0), .second, .val (.int p1), .val (.long q2), .second, .val (.int (p1 &&& (3 : Int32)))] [(.long q2)]))
        refine own_via (fun t k => XS.lconst X0.here hx rfl (hb hby d5_41) k) ?_
        show OwnEnds p.tables e below _ (s₁.setTop (mkF m 42 #[.val (.long q0), .second, .val (.int p1), .val (.long q2), .second, .val (.int (p1 &&& (3 : Int32)))] [(.long (1 : Int64)), (.long q2)]))
        refine own_via (fun t k => XS.ladd X0.here hx rfl (hb hby d5_42) rfl k) ?_
        show OwnEnds p.tables e below _ (s₁.setTop (mkF m 43 #[.val (.long q0), .second, .val (.int p1), .val (.long q2), .second, .val (.int (p1 &&& (3 : Int32)))] [(.long (q2 + (1 : Int64)))]))
        refine own_via (fun t k => XS.lloadN X0.here hx rfl (hb hby d5_43) rfl k) ?_
        show OwnEnds p.tables e below _ (s₁.setTop (mkF m 44 #[.val (.long q0), .second, .val (.int p1), .val (.long q2), .second, .val (.int (p1 &&& (3 : Int32)))] [(.long q0), (.long (q2 + (1 : Int64)))]))
        refine own_via (X0.ldc2Long hx hown (mvT hZ (hw _ (List.mem_of_getElem? (i := 36) rfl))) (g := (mkF m 44 #[.val (.long q0), .second, .val (.int p1), .val (.long q2), .second, .val (.int (p1 &&& (3 : Int32)))] [(.long q0), (.long (q2 + (1 : Int64)))])) rfl (hb hby d5_44)) ?_
        show OwnEnds p.tables e below _ (s₁.setTop (mkF m 47 #[.val (.long q0), .second, .val (.int p1), .val (.long q2), .second, .val (.int (p1 &&& (3 : Int32)))] [(.long (255 : Int64)), (.long q0), (.long (q2 + (1 : Int64)))]))
        refine own_via (fun t k => XS.land X0.here hx rfl (hb hby d5_47) rfl k) ?_
        show OwnEnds p.tables e below _ (s₁.setTop (mkF m 48 #[.val (.long q0), .second, .val (.int p1), .val (.long q2), .second, .val (.int (p1 &&& (3 : Int32)))] [(.long (q0 &&& (255 : Int64))), (.long (q2 + (1 : Int64)))]))
        refine own_via (fun t k => XS.ladd X0.here hx rfl (hb hby d5_48) rfl k) ?_
        show OwnEnds p.tables e below _ (s₁.setTop (mkF m 49 #[.val (.long q0), .second, .val (.int p1), .val (.long q2), .second, .val (.int (p1 &&& (3 : Int32)))] [(.long ((q2 + (1 : Int64)) + (q0 &&& (255 : Int64))))]))
        refine own_retJ X0 hx Bd.returns hlk (hb hby d5_49) ?_ (by decide) (by decide)
        rw [e0]
        exact ⟨congrArg (fun z => some (Value.long z)) (show ((q2 + (1 : Int64)) + (q0 &&& (255 : Int64))) = own_pick q0 p1 q2 by simp only [own_pick, if_neg hc7_1, if_neg hc19_2, if_neg hc35_3]), N0, rfl⟩
theorem d6_0 : decode prog_35_method_3_code 0 = .ok (.aload_n 0, 1) := by decide +kernel
theorem d6_1 : decode prog_35_method_3_code 1 = .ok (.getfield 24, 3) := by decide +kernel
theorem d6_4 : decode prog_35_method_3_code 4 = .ok (.lload_n 1, 1) := by decide +kernel
theorem d6_5 : decode prog_35_method_3_code 5 = .ok (.ladd, 1) := by decide +kernel
theorem d6_6 : decode prog_35_method_3_code 6 = .ok (.aload_n 0, 1) := by decide +kernel
theorem d6_7 : decode prog_35_method_3_code 7 = .ok (.getfield 16, 3) := by decide +kernel
theorem d6_10 : decode prog_35_method_3_code 10 = .ok (.ldc2_w 27, 3) := by decide +kernel
theorem d6_13 : decode prog_35_method_3_code 13 = .ok (.ldiv, 1) := by decide +kernel
theorem d6_14 : decode prog_35_method_3_code 14 = .ok (.lcmp, 1) := by decide +kernel
theorem d6_15 : decode prog_35_method_3_code 15 = .ok (.ifCond .gt 7, 3) := by decide +kernel
theorem d6_18 : decode prog_35_method_3_code 18 = .ok (.iconst 1, 1) := by decide +kernel
theorem d6_19 : decode prog_35_method_3_code 19 = .ok (.goto 4, 3) := by decide +kernel
theorem d6_22 : decode prog_35_method_3_code 22 = .ok (.iconst 0, 1) := by decide +kernel
theorem d6_23 : decode prog_35_method_3_code 23 = .ok (.istore_n 3, 1) := by decide +kernel
theorem d6_24 : decode prog_35_method_3_code 24 = .ok (.iload_n 3, 1) := by decide +kernel
theorem d6_25 : decode prog_35_method_3_code 25 = .ok (.ifCond .eq 13, 3) := by decide +kernel
theorem d6_28 : decode prog_35_method_3_code 28 = .ok (.aload_n 0, 1) := by decide +kernel
theorem d6_29 : decode prog_35_method_3_code 29 = .ok (.dup, 1) := by decide +kernel
theorem d6_30 : decode prog_35_method_3_code 30 = .ok (.getfield 24, 3) := by decide +kernel
theorem d6_33 : decode prog_35_method_3_code 33 = .ok (.lload_n 1, 1) := by decide +kernel
theorem d6_34 : decode prog_35_method_3_code 34 = .ok (.ladd, 1) := by decide +kernel
theorem d6_35 : decode prog_35_method_3_code 35 = .ok (.putfield 24, 3) := by decide +kernel
theorem d6_38 : decode prog_35_method_3_code 38 = .ok (.iload_n 3, 1) := by decide +kernel
theorem d6_39 : decode prog_35_method_3_code 39 = .ok (.ireturn, 1) := by decide +kernel
theorem ef_6 (m : MethodId) (a0 : Addr) (q1 : Int64) : entryFrame m #[(.ref a0), (.long q1)] 4 = mkF m 0 #[.val (.ref a0), .val (.long q1), .second, .unset] [] := by first | (simp [entryFrame, mkF, argsToLocals, Value.category]; done) | rfl
def Q6 (Z : State) (a0 : Addr) (q1 : Int64) (bud : Int64) (r : Int64) (h0 : Heap) (n0 : Nat) (v : Option Value) (h : Heap) (L : List Loc) : Prop := v = some (.int (own_res r q1 bud)) ∧ Fr n0 L ∧ Keep h0 h [a0] ∧ Exa Z h a0 "com/example/linkstage/linkstage/core/DeclarationCache" ∧ Fld Z h a0 "com/example/linkstage/linkstage/core/DeclarationCache" "budget" "J" (.long bud) ∧ Fld Z h a0 "com/example/linkstage/linkstage/core/DeclarationCache" "reserved" "J" (.long (own_nr r q1 bud))
set_option maxRecDepth 65536 in
set_option maxHeartbeats 40000000 in
theorem rm6 (l : Launch) (Z : State) (aw : Array Value) (hw : ∀ d ∈ tables_1, d.before aw Z = true) (ws : List Jvm.Cond) (a0 : Addr) (q1 : Int64) (bud : Int64) (r : Int64) (h0 : Heap) (n0 : Nat) (Z0 : n0 ≤ h0.size) (E_a0 : Exa Z h0 a0 "com/example/linkstage/linkstage/core/DeclarationCache") (F_budget_a0 : Fld Z h0 a0 "com/example/linkstage/linkstage/core/DeclarationCache" "budget" "J" (.long bud)) (F_reserved_a0 : Fld Z h0 a0 "com/example/linkstage/linkstage/core/DeclarationCache" "reserved" "J" (.long r)) (g_a0 : n0 ≤ a0) :
    MetFree l (⟨"com/example/linkstage/linkstage/core/DeclarationCache", "reserve", "(J)Z"⟩ : MethodName) (head1 (Jvm.Cond.code (⟨"com/example/linkstage/linkstage/core/DeclarationCache", "reserve", "(J)Z"⟩ : MethodName) prog_35_method_3_code 4 (some .boolean) :: ws) ({ frames := 0, cells := 0, slots := 0, locals := 0 } : Room)) (fun a U => a = #[(.ref a0), (.long q1)] ∧ Z.Warmed39 U.vm ∧ U.heap = h0) (fun _ _ _ _ _ => True) (fun _ U o U' => ∃ v L, o = .returned v ∧ Q6 Z a0 q1 bud r h0 n0 v U'.heap L ∧ FrameEnd U o U' L ({ frames := 0, cells := 0, slots := 0, locals := 0 } : Room).cells ({ frames := 0, cells := 0, slots := 0, locals := 0 } : Room).slots) := by
  refine MetFree.of_bodySF (plainFor_of_name pn_2) hisR ?_
  intro p e s m args below meth c s₁ Bd hml0 hP hK
  obtain ⟨rfl, hZ, hh⟩ := hP
  have hx := Bd.exec
  have hby := Bd.bytes
  have hml : c.maxLocals = 4 := hml0
  have hown : s.vm.findClass "com/example/linkstage/linkstage/core/DeclarationCache" = some m.cls := findClass_of_methodNamed Bd.named
  have hnm := (name_of_methodNamed Bd.named Bd.method).1
  have hlk : meth.locks = false := Bd.notSynchronized
  have X0 : Stand p l e ({ frames := 0, cells := 0, slots := 0, locals := 0 } : Room) s m #[(.ref a0), (.long q1)] below meth c s₁ [] 0 0 := Stand.of_body Bd
  have e0 : s₁.heap = h0 := by rw [← hh, Bd.state]; rfl
  have N0 := Fr.nil n0
  show OwnEnds p.tables e below (OwnQ s ({ frames := 0, cells := 0, slots := 0, locals := 0 } : Room).cells ({ frames := 0, cells := 0, slots := 0, locals := 0 } : Room).slots (Q6 Z a0 q1 bud r h0 n0)) (s₁.setTop (entryFrame m #[(.ref a0), (.long q1)] 4))
  refine own_via (fun t k => castTop (ef_6 m a0 q1) k) ?_
  show OwnEnds p.tables e below _ (s₁.setTop (mkF m 0 #[.val (.ref a0), .val (.long q1), .second, .unset] []))
  have K0 : Keep h0 h0 [a0] := Keep.refl _ _
  refine own_via (fun t k => XS.aloadN X0.here hx rfl (hb hby d6_0) rfl rfl k) ?_
  show OwnEnds p.tables e below _ (s₁.setTop (mkF m 1 #[.val (.ref a0), .val (.long q1), .second, .unset] [(.ref a0)]))
  obtain ⟨T1, X1, e1, st1⟩ := getF X0 hx hZ hown (host := "") (Or.inl (hw _ (List.mem_of_getElem? (i := 42) rfl))) Via.refl e0 F_reserved_a0 (g := (mkF m 1 #[.val (.ref a0), .val (.long q1), .second, .unset] [(.ref a0)])) rfl rfl (hb hby d6_1)
  refine own_via st1 ?_
  show OwnEnds p.tables e below _ (T1.setTop (mkF m 4 #[.val (.ref a0), .val (.long q1), .second, .unset] [(.long r)]))
  refine own_via (fun t k => XS.lloadN X1.here hx rfl (hb hby d6_4) rfl k) ?_
  show OwnEnds p.tables e below _ (T1.setTop (mkF m 5 #[.val (.ref a0), .val (.long q1), .second, .unset] [(.long q1), (.long r)]))
  refine own_via (fun t k => XS.ladd X1.here hx rfl (hb hby d6_5) rfl k) ?_
  show OwnEnds p.tables e below _ (T1.setTop (mkF m 6 #[.val (.ref a0), .val (.long q1), .second, .unset] [(.long (r + q1))]))
  refine own_via (fun t k => XS.aloadN X1.here hx rfl (hb hby d6_6) rfl rfl k) ?_
  show OwnEnds p.tables e below _ (T1.setTop (mkF m 7 #[.val (.ref a0), .val (.long q1), .second, .unset] [(.ref a0), (.long (r + q1))]))
  obtain ⟨T2, X2, e2, st2⟩ := getF X1 hx hZ hown (host := "") (Or.inl (hw _ (List.mem_of_getElem? (i := 29) rfl))) Via.refl e1 F_budget_a0 (g := (mkF m 7 #[.val (.ref a0), .val (.long q1), .second, .unset] [(.ref a0), (.long (r + q1))])) rfl rfl (hb hby d6_7)
  refine own_via st2 ?_
  show OwnEnds p.tables e below _ (T2.setTop (mkF m 10 #[.val (.ref a0), .val (.long q1), .second, .unset] [(.long bud), (.long (r + q1))]))
  refine own_via (X2.ldc2Long hx hown (mvT hZ (hw _ (List.mem_of_getElem? (i := 44) rfl))) (g := (mkF m 10 #[.val (.ref a0), .val (.long q1), .second, .unset] [(.long bud), (.long (r + q1))])) rfl (hb hby d6_10)) ?_
  show OwnEnds p.tables e below _ (T2.setTop (mkF m 13 #[.val (.ref a0), .val (.long q1), .second, .unset] [(.long (4 : Int64)), (.long bud), (.long (r + q1))]))
  refine own_via (fun t k => XS.ldiv X2.here hx rfl (hb hby d6_13) rfl (by decide) k) ?_
  show OwnEnds p.tables e below _ (T2.setTop (mkF m 14 #[.val (.ref a0), .val (.long q1), .second, .unset] [(.long (bud / (4 : Int64))), (.long (r + q1))]))
  refine own_via (fun t k => XS.lcmp X2.here hx rfl (hb hby d6_14) rfl k) ?_
  show OwnEnds p.tables e below _ (T2.setTop (mkF m 15 #[.val (.ref a0), .val (.long q1), .second, .unset] [(.int (lcmpW (r + q1) (bud / (4 : Int64))))]))
  have J23_3 : ∀ zz : Int32, zz = (if (bud / (4 : Int64)) < (r + q1) then (0 : Int32) else (1 : Int32)) → OwnEnds p.tables e below (OwnQ s ({ frames := 0, cells := 0, slots := 0, locals := 0 } : Room).cells ({ frames := 0, cells := 0, slots := 0, locals := 0 } : Room).slots (Q6 Z a0 q1 bud r h0 n0)) (T2.setTop (mkF m 23 #[.val (.ref a0), .val (.long q1), .second, .unset] [(.int zz)])) := by
    intro zz h_zz
    refine own_via (fun t k => XS.istoreN X2.here hx rfl (hb hby d6_23) rfl (l' := #[.val (.ref a0), .val (.long q1), .second, .val (.int zz)]) rfl k) ?_
    show OwnEnds p.tables e below _ (T2.setTop (mkF m 24 #[.val (.ref a0), .val (.long q1), .second, .val (.int zz)] []))
    refine own_via (fun t k => XS.iloadN X2.here hx rfl (hb hby d6_24) rfl k) ?_
    show OwnEnds p.tables e below _ (T2.setTop (mkF m 25 #[.val (.ref a0), .val (.long q1), .second, .val (.int zz)] [(.int zz)]))
    by_cases hc25_4 : zz = (0 : Int32)
    · skip
      refine own_via (fun t k => XS.ifYes X2.here hx rfl (pc0 := 25) (pc' := 38) rfl (hb hby d6_25) rfl ((if0 _ _).trans (teq hc25_4).1) (by decide) (by decide) k) ?_
      show OwnEnds p.tables e below _ (T2.setTop (mkF m 38 #[.val (.ref a0), .val (.long q1), .second, .val (.int zz)] []))
      refine own_via (fun t k => XS.iloadN X2.here hx rfl (hb hby d6_38) rfl k) ?_
      show OwnEnds p.tables e below _ (T2.setTop (mkF m 39 #[.val (.ref a0), .val (.long q1), .second, .val (.int zz)] [(.int zz)]))
      have hz : zz = own_res r q1 bud := h_zz
      have hr : r = own_nr r q1 bud := own_nrz0 hz hc25_4
      rw [hr] at F_reserved_a0
      refine own_retN (t := .boolean) X2 hx Bd.returns (by simp) hlk (hb hby d6_39) ?_ (by decide) (by decide)
      rw [e2]
      exact ⟨congrArg (fun z => some (Value.int z)) (show nar .boolean zz = own_res r q1 bud by rw [hz]; exact own_z1), N0, K0, E_a0, F_budget_a0, F_reserved_a0⟩
    · skip
      refine own_via (fun t k => XS.ifNo X2.here hx rfl (hb hby d6_25) rfl ((if0 _ _).trans (feq hc25_4).1) k) ?_
      show OwnEnds p.tables e below _ (T2.setTop (mkF m 28 #[.val (.ref a0), .val (.long q1), .second, .val (.int zz)] []))
      refine own_via (fun t k => XS.aloadN X2.here hx rfl (hb hby d6_28) rfl rfl k) ?_
      show OwnEnds p.tables e below _ (T2.setTop (mkF m 29 #[.val (.ref a0), .val (.long q1), .second, .val (.int zz)] [(.ref a0)]))
      refine own_via (fun t k => XS.dup X2.here hx rfl (hb hby d6_29) rfl rfl k) ?_
      show OwnEnds p.tables e below _ (T2.setTop (mkF m 30 #[.val (.ref a0), .val (.long q1), .second, .val (.int zz)] [(.ref a0), (.ref a0)]))
      obtain ⟨T5, X5, e5, st5⟩ := getF X2 hx hZ hown (host := "") (Or.inl (hw _ (List.mem_of_getElem? (i := 42) rfl))) Via.refl e2 F_reserved_a0 (g := (mkF m 30 #[.val (.ref a0), .val (.long q1), .second, .val (.int zz)] [(.ref a0), (.ref a0)])) rfl rfl (hb hby d6_30)
      refine own_via st5 ?_
      show OwnEnds p.tables e below _ (T5.setTop (mkF m 33 #[.val (.ref a0), .val (.long q1), .second, .val (.int zz)] [(.long r), (.ref a0)]))
      refine own_via (fun t k => XS.lloadN X5.here hx rfl (hb hby d6_33) rfl k) ?_
      show OwnEnds p.tables e below _ (T5.setTop (mkF m 34 #[.val (.ref a0), .val (.long q1), .second, .val (.int zz)] [(.long q1), (.long r), (.ref a0)]))
      refine own_via (fun t k => XS.ladd X5.here hx rfl (hb hby d6_34) rfl k) ?_
      show OwnEnds p.tables e below _ (T5.setTop (mkF m 35 #[.val (.ref a0), .val (.long q1), .second, .val (.int zz)] [(.long (r + q1)), (.ref a0)]))
      obtain ⟨T6, h6, X6, e6, W6, st6⟩ := putF X5 hx hZ hown (host := "") (Or.inl (hw _ (List.mem_of_getElem? (i := 42) rfl))) Via.refl e5 F_reserved_a0 E_a0 (Or.inl (hw _ (List.mem_of_getElem? (i := 43) rfl))) (hw _ (List.mem_of_getElem? (i := 2) rfl)) (ty := .long) (by decide) rfl rfl (g := (mkF m 35 #[.val (.ref a0), .val (.long q1), .second, .val (.int zz)] [(.long (r + q1)), (.ref a0)])) rfl rfl (hb hby d6_35)
      replace E_a0 := E_a0.wr W6
      replace F_budget_a0 := F_budget_a0.other W6 (Or.inr (slot_ne (Or.inr (hw _ (List.mem_of_getElem? (i := 30) rfl))) (Or.inl (hw _ (List.mem_of_getElem? (i := 43) rfl))) (by decide) (t := .long) (t' := .long) (by decide) (by decide)))
      replace F_reserved_a0 := F_reserved_a0.same W6
      replace K0 := K0.wr W6 (Or.inl (List.mem_of_getElem? (i := 0) rfl))
      have Zs_W6 : n0 ≤ _ := Nat.le_trans Z0 (Keep.of_wr W6).1
      have N6 := Fr.snoc X6 N0 g_a0
      refine own_via st6 ?_
      show OwnEnds p.tables e below _ (T6.setTop (mkF m 38 #[.val (.ref a0), .val (.long q1), .second, .val (.int zz)] []))
      refine own_via (fun t k => XS.iloadN X6.here hx rfl (hb hby d6_38) rfl k) ?_
      show OwnEnds p.tables e below _ (T6.setTop (mkF m 39 #[.val (.ref a0), .val (.long q1), .second, .val (.int zz)] [(.int zz)]))
      have hz : zz = own_res r q1 bud := h_zz
      have hr : (r + q1) = own_nr r q1 bud := own_nrz hz hc25_4
      rw [hr] at F_reserved_a0
      refine own_retN (t := .boolean) X6 hx Bd.returns (by simp) hlk (hb hby d6_39) ?_ (by decide) (by decide)
      rw [e6]
      exact ⟨congrArg (fun z => some (Value.int z)) (show nar .boolean zz = own_res r q1 bud by rw [hz]; exact own_z1), N6, K0, E_a0, F_budget_a0, F_reserved_a0⟩
  by_cases hc15_7 : (bud / (4 : Int64)) < (r + q1)
  · skip
    refine own_via (fun t k => XS.ifYes X2.here hx rfl (pc0 := 15) (pc' := 22) rfl (hb hby d6_15) rfl (own_lc_gt_t hc15_7).1 (by decide) (by decide) k) ?_
    show OwnEnds p.tables e below _ (T2.setTop (mkF m 22 #[.val (.ref a0), .val (.long q1), .second, .unset] []))
    refine own_via (fun t k => XS.iconst X2.here hx rfl (hb hby d6_22) k) ?_
    show OwnEnds p.tables e below _ (T2.setTop (mkF m 23 #[.val (.ref a0), .val (.long q1), .second, .unset] [(.int (0 : Int32))]))
    exact J23_3 _ (by simp only [if_pos hc15_7])
  · skip
    refine own_via (fun t k => XS.ifNo X2.here hx rfl (hb hby d6_15) rfl (own_lc_gt_f hc15_7).1 k) ?_
    show OwnEnds p.tables e below _ (T2.setTop (mkF m 18 #[.val (.ref a0), .val (.long q1), .second, .unset] []))
    refine own_via (fun t k => XS.iconst X2.here hx rfl (hb hby d6_18) k) ?_
    show OwnEnds p.tables e below _ (T2.setTop (mkF m 19 #[.val (.ref a0), .val (.long q1), .second, .unset] [(.int (1 : Int32))]))
    refine own_via (fun t k => XS.goto X2.here hx rfl (pc0 := 19) (pc' := 23) rfl (hb hby d6_19) (by decide) (by decide) k) ?_
    show OwnEnds p.tables e below _ (T2.setTop (mkF m 23 #[.val (.ref a0), .val (.long q1), .second, .unset] [(.int (1 : Int32))]))
    exact J23_3 _ (by simp only [if_neg hc15_7])
theorem ef_0 (m : MethodId) (q0 : Int64) (q1 : Int64) (q2 : Int64) (q3 : Int64) (p4 : Int32) : entryFrame m #[(.long q0), (.long q1), (.long q2), (.long q3), (.int p4)] maxLocals = mkF m 0 #[.val (.long q0), .second, .val (.long q1), .second, .val (.long q2), .second, .val (.long q3), .second, .val (.int p4), .unset, .unset, .unset, .unset, .unset, .unset, .unset, .unset, .unset, .unset, .unset, .unset, .unset, .unset, .unset, .unset, .unset, .unset, .unset, .unset] [] := by first | (simp [entryFrame, mkF, argsToLocals, Value.category, maxLocals]; done) | rfl
def Q0 (Z : State) (q0 : Int64) (q1 : Int64) (q2 : Int64) (q3 : Int64) (p4 : Int32) (h0 : Heap) (n0 : Nat) (v : Option Value) (h : Heap) (L : List Loc) : Prop := v = some (.int 1) ∧ Fr n0 L
theorem pd_1 : parseMethodDescriptor "(J)V" = some ⟨[.long], none⟩ := by decide +kernel
theorem pd_2 : parseMethodDescriptor "(JIJ)J" = some ⟨[.long, .int, .long], some .long⟩ := by decide +kernel
theorem pd_3 : parseMethodDescriptor "(J)Z" = some ⟨[.long], some .boolean⟩ := by decide +kernel
set_option maxRecDepth 65536 in
set_option maxHeartbeats 40000000 in
theorem rm0 (l : Launch) (Z : State) (aw : Array Value) (hw : ∀ d ∈ tables_1, d.before aw Z = true) (ws : List Jvm.Cond) (q0 : Int64) (q1 : Int64) (q2 : Int64) (q3 : Int64) (p4 : Int32) (h0 : Heap) (n0 : Nat) (Z0 : n0 ≤ h0.size) :
    MetFree l x (head1 (Jvm.Cond.code x code maxLocals ret :: ws) room_1) (fun a U => a = #[(.long q0), (.long q1), (.long q2), (.long q3), (.int p4)] ∧ Z.Warmed39 U.vm ∧ U.heap = h0) (fun _ _ _ _ _ => True) (fun _ U o U' => ∃ v L, o = .returned v ∧ Q0 Z q0 q1 q2 q3 p4 h0 n0 v U'.heap L ∧ FrameEnd U o U' L 16 128) := by
  refine MetFree.of_bodySF (plainFor_of_name pn_3) hisR ?_
  intro p e s m args below meth c s₁ Bd hml0 hP hK
  obtain ⟨rfl, hZ, hh⟩ := hP
  have hx := Bd.exec
  have hby := Bd.bytes
  have hml : c.maxLocals = 29 := hml0
  have hown : s.vm.findClass "com/example/linkstage/linkstage/core/DeclarationCacheReservePinLaw" = some m.cls := findClass_of_methodNamed Bd.named
  have hnm := (name_of_methodNamed Bd.named Bd.method).1
  have hlk : meth.locks = false := Bd.notSynchronized
  have X0 : Stand p l e room_1 s m #[(.long q0), (.long q1), (.long q2), (.long q3), (.int p4)] below meth c s₁ [] 0 0 := Stand.of_body Bd
  have e0 : s₁.heap = h0 := by rw [← hh, Bd.state]; rfl
  have N0 := Fr.nil n0
  show OwnEnds p.tables e below (OwnQ s 16 128 (Q0 Z q0 q1 q2 q3 p4 h0 n0)) (s₁.setTop (entryFrame m #[(.long q0), (.long q1), (.long q2), (.long q3), (.int p4)] maxLocals))
  refine own_via (fun t k => castTop (ef_0 m q0 q1 q2 q3 p4) k) ?_
  show OwnEnds p.tables e below _ (s₁.setTop (mkF m 0 #[.val (.long q0), .second, .val (.long q1), .second, .val (.long q2), .second, .val (.long q3), .second, .val (.int p4), .unset, .unset, .unset, .unset, .unset, .unset, .unset, .unset, .unset, .unset, .unset, .unset, .unset, .unset, .unset, .unset, .unset, .unset, .unset, .unset] []))
  refine own_via (fun t k => XS.iload X0.here hx rfl (hb hby at_0) rfl k) ?_
  show OwnEnds p.tables e below _ (s₁.setTop (mkF m 2 #[.val (.long q0), .second, .val (.long q1), .second, .val (.long q2), .second, .val (.long q3), .second, .val (.int p4), .unset, .unset, .unset, .unset, .unset, .unset, .unset, .unset, .unset, .unset, .unset, .unset, .unset, .unset, .unset, .unset, .unset, .unset, .unset, .unset] [(.int p4)]))
  refine own_via (fun t k => XS.bipush X0.here hx rfl (hb hby at_2) k) ?_
  show OwnEnds p.tables e below _ (s₁.setTop (mkF m 4 #[.val (.long q0), .second, .val (.long q1), .second, .val (.long q2), .second, .val (.long q3), .second, .val (.int p4), .unset, .unset, .unset, .unset, .unset, .unset, .unset, .unset, .unset, .unset, .unset, .unset, .unset, .unset, .unset, .unset, .unset, .unset, .unset, .unset] [(.int (6 : Int32)), (.int p4)]))
  refine own_via (fun t k => XS.ishr X0.here hx rfl (hb hby at_4) rfl k) ?_
  show OwnEnds p.tables e below _ (s₁.setTop (mkF m 5 #[.val (.long q0), .second, .val (.long q1), .second, .val (.long q2), .second, .val (.long q3), .second, .val (.int p4), .unset, .unset, .unset, .unset, .unset, .unset, .unset, .unset, .unset, .unset, .unset, .unset, .unset, .unset, .unset, .unset, .unset, .unset, .unset, .unset] [(.int (p4 >>> ((6 : Int32) &&& 31)))]))
  refine own_via (fun t k => XS.iconst X0.here hx rfl (hb hby at_5) k) ?_
  show OwnEnds p.tables e below _ (s₁.setTop (mkF m 6 #[.val (.long q0), .second, .val (.long q1), .second, .val (.long q2), .second, .val (.long q3), .second, .val (.int p4), .unset, .unset, .unset, .unset, .unset, .unset, .unset, .unset, .unset, .unset, .unset, .unset, .unset, .unset, .unset, .unset, .unset, .unset, .unset, .unset] [(.int (1 : Int32)), (.int (p4 >>> ((6 : Int32) &&& 31)))]))
  refine own_via (fun t k => XS.iand X0.here hx rfl (hb hby at_6) rfl k) ?_
  show OwnEnds p.tables e below _ (s₁.setTop (mkF m 7 #[.val (.long q0), .second, .val (.long q1), .second, .val (.long q2), .second, .val (.long q3), .second, .val (.int p4), .unset, .unset, .unset, .unset, .unset, .unset, .unset, .unset, .unset, .unset, .unset, .unset, .unset, .unset, .unset, .unset, .unset, .unset, .unset, .unset] [(.int ((p4 >>> ((6 : Int32) &&& 31)) &&& (1 : Int32)))]))
  have J23_1 : ∀ bud : Int64, bud = (if ((p4 >>> ((6 : Int32) &&& 31)) &&& (1 : Int32)) = (0 : Int32) then (q0 &&& (9223372036854775807 : Int64)) else (q0 &&& (255 : Int64))) → OwnEnds p.tables e below (OwnQ s 16 128 (Q0 Z q0 q1 q2 q3 p4 h0 n0)) (s₁.setTop (mkF m 23 #[.val (.long q0), .second, .val (.long q1), .second, .val (.long q2), .second, .val (.long q3), .second, .val (.int p4), .unset, .unset, .unset, .unset, .unset, .unset, .unset, .unset, .unset, .unset, .unset, .unset, .unset, .unset, .unset, .unset, .unset, .unset, .unset, .unset] [(.long bud)])) := by
    intro bud h_bud
    have hbud := own_bud h_bud
    refine own_via (fun t k => XS.lstore X0.here hx rfl (hb hby at_23) rfl (l' := #[.val (.long q0), .second, .val (.long q1), .second, .val (.long q2), .second, .val (.long q3), .second, .val (.int p4), .val (.long bud), .second, .unset, .unset, .unset, .unset, .unset, .unset, .unset, .unset, .unset, .unset, .unset, .unset, .unset, .unset, .unset, .unset, .unset, .unset]) rfl k) ?_
    show OwnEnds p.tables e below _ (s₁.setTop (mkF m 25 #[.val (.long q0), .second, .val (.long q1), .second, .val (.long q2), .second, .val (.long q3), .second, .val (.int p4), .val (.long bud), .second, .unset, .unset, .unset, .unset, .unset, .unset, .unset, .unset, .unset, .unset, .unset, .unset, .unset, .unset, .unset, .unset, .unset, .unset] []))
    obtain ⟨T2, h2, X2, e2, E2, A2, D2, -, st2⟩ := newO X0 hx hZ hown (hw _ (List.mem_of_getElem? (i := 1) rfl)) (hw _ (List.mem_of_getElem? (i := 2) rfl)) (hw _ (List.mem_of_getElem? (i := 3) rfl)) e0 (g := (mkF m 25 #[.val (.long q0), .second, .val (.long q1), .second, .val (.long q2), .second, .val (.long q3), .second, .val (.int p4), .val (.long bud), .second, .unset, .unset, .unset, .unset, .unset, .unset, .unset, .unset, .unset, .unset, .unset, .unset, .unset, .unset, .unset, .unset, .unset, .unset] [])) rfl (hb hby at_25) (by decide) (by decide)
    obtain ⟨b2, g2⟩ : ∃ z, z = h0.size := ⟨_, rfl⟩
    rw [← g2] at A2 D2 st2
    have g_b2 : n0 ≤ b2 := Nat.le_trans Z0 (Nat.le_of_eq g2.symm)
    have Zs_2 : n0 ≤ _ := Nat.le_trans Z0 E2.1
    have E_b2 := A2
    have F_kept_b2 : Fld Z h2 b2 "com/example/linkstage/linkstage/core/DeclarationCache" "kept" "Ljava/util/Deque;" .null := D2 (Or.inr (hw _ (List.mem_of_getElem? (i := 28) rfl))) (ty := (.object "java/util/Deque")) (by decide)
    have F_budget_b2 : Fld Z h2 b2 "com/example/linkstage/linkstage/core/DeclarationCache" "budget" "J" (.long (0 : Int64)) := D2 (Or.inr (hw _ (List.mem_of_getElem? (i := 30) rfl))) (ty := .long) (by decide)
    have F_reserved_b2 : Fld Z h2 b2 "com/example/linkstage/linkstage/core/DeclarationCache" "reserved" "J" (.long (0 : Int64)) := D2 (Or.inl (hw _ (List.mem_of_getElem? (i := 43) rfl))) (ty := .long) (by decide)
    refine own_via st2 ?_
    show OwnEnds p.tables e below _ (T2.setTop (mkF m 28 #[.val (.long q0), .second, .val (.long q1), .second, .val (.long q2), .second, .val (.long q3), .second, .val (.int p4), .val (.long bud), .second, .unset, .unset, .unset, .unset, .unset, .unset, .unset, .unset, .unset, .unset, .unset, .unset, .unset, .unset, .unset, .unset, .unset, .unset] [(.ref b2)]))
    refine own_via (fun t k => XS.dup X2.here hx rfl (hb hby at_28) rfl rfl k) ?_
    show OwnEnds p.tables e below _ (T2.setTop (mkF m 29 #[.val (.long q0), .second, .val (.long q1), .second, .val (.long q2), .second, .val (.long q3), .second, .val (.int p4), .val (.long bud), .second, .unset, .unset, .unset, .unset, .unset, .unset, .unset, .unset, .unset, .unset, .unset, .unset, .unset, .unset, .unset, .unset, .unset, .unset] [(.ref b2), (.ref b2)]))
    refine own_via (fun t k => XS.lload X2.here hx rfl (hb hby at_29) rfl k) ?_
    show OwnEnds p.tables e below _ (T2.setTop (mkF m 31 #[.val (.long q0), .second, .val (.long q1), .second, .val (.long q2), .second, .val (.long q3), .second, .val (.int p4), .val (.long bud), .second, .unset, .unset, .unset, .unset, .unset, .unset, .unset, .unset, .unset, .unset, .unset, .unset, .unset, .unset, .unset, .unset, .unset, .unset] [(.long bud), (.ref b2), (.ref b2)]))
    obtain ⟨_, _, ⟨T3, L3, k3, n3⟩, -, X3, ⟨Lc3, hQ3, l3, y3, z3⟩, st3⟩ := X2.specialBack hx (y := (⟨"com/example/linkstage/linkstage/core/DeclarationCache", "<init>", "(J)V"⟩ : MethodName)) rfl hown (mvT hZ (hw _ (List.mem_of_getElem? (i := 4) rfl))) (mvT hZ (hw _ (List.mem_of_getElem? (i := 5) rfl))) (mvT hZ (hw _ (List.mem_of_getElem? (i := 6) rfl))) (by decide) (backOf (W := 1) (rm1 l Z aw hw [] b2 bud h2 n0 Zs_2 E_b2 F_kept_b2 F_budget_b2 F_reserved_b2 g_b2) hZ (hw _ (List.mem_of_getElem? (i := 6) rfl)) (hw _ (List.mem_of_getElem? (i := 3) rfl)) (by decide) (by decide)) (g := (mkF m 31 #[.val (.long q0), .second, .val (.long q1), .second, .val (.long q2), .second, .val (.long q3), .second, .val (.int p4), .val (.long bud), .second, .unset, .unset, .unset, .unset, .unset, .unset, .unset, .unset, .unset, .unset, .unset, .unset, .unset, .unset, .unset, .unset, .unset, .unset] [(.long bud), (.ref b2), (.ref b2)])) rfl (by rw [hml]; rfl) (Steps.refl _) (a := b2) (argsL := [(.long bud)]) (rest := [(.ref b2)]) (lenOf pd_1 rfl) rfl (by show 2 * 0 + _ ≤ _; exact Nat.le_of_eq rfl) (hb hby at_31) (fun _ _ => ⟨rfl, e2, (by decide : 1 + 2 ≤ _), (by decide : 6 + 20 ≤ _)⟩)
    dsimp only [Pt.U, Pt.locs, Pt.cells, Pt.slots] at X3 l3 y3 z3 st3 hQ3
    subst l3 y3 z3
    obtain ⟨h3, e3⟩ : ∃ z, T3.heap = z := ⟨_, rfl⟩
    rw [e3] at hQ3
    obtain ⟨rfl, Nq3, K3, Y3_0, Y3_1, Y3_2⟩ := hQ3
    have N3 := Fr.app N0 Nq3
    replace E_b2 := E_b2.keep K3
    have F_budget_b2 : Fld Z h3 b2 "com/example/linkstage/linkstage/core/DeclarationCache" "budget" "J" (.long bud) := Y3_1
    have F_reserved_b2 : Fld Z h3 b2 "com/example/linkstage/linkstage/core/DeclarationCache" "reserved" "J" (.long (0 : Int64)) := Y3_2
    have Zs_3 : n0 ≤ _ := Nat.le_trans Zs_2 K3.1
    refine own_of st3 ?_
    show OwnEnds p.tables e below _ (T3.setTop (mkF m 34 #[.val (.long q0), .second, .val (.long q1), .second, .val (.long q2), .second, .val (.long q3), .second, .val (.int p4), .val (.long bud), .second, .unset, .unset, .unset, .unset, .unset, .unset, .unset, .unset, .unset, .unset, .unset, .unset, .unset, .unset, .unset, .unset, .unset, .unset] [(.ref b2)]))
    refine own_via (fun t k => XS.astore X3.here hx rfl (hb hby at_34) rfl rfl (l' := #[.val (.long q0), .second, .val (.long q1), .second, .val (.long q2), .second, .val (.long q3), .second, .val (.int p4), .val (.long bud), .second, .val (.ref b2), .unset, .unset, .unset, .unset, .unset, .unset, .unset, .unset, .unset, .unset, .unset, .unset, .unset, .unset, .unset, .unset, .unset]) rfl k) ?_
    show OwnEnds p.tables e below _ (T3.setTop (mkF m 36 #[.val (.long q0), .second, .val (.long q1), .second, .val (.long q2), .second, .val (.long q3), .second, .val (.int p4), .val (.long bud), .second, .val (.ref b2), .unset, .unset, .unset, .unset, .unset, .unset, .unset, .unset, .unset, .unset, .unset, .unset, .unset, .unset, .unset, .unset, .unset] []))
    refine own_via (fun t k => XS.lload X3.here hx rfl (hb hby at_36) rfl k) ?_
    show OwnEnds p.tables e below _ (T3.setTop (mkF m 38 #[.val (.long q0), .second, .val (.long q1), .second, .val (.long q2), .second, .val (.long q3), .second, .val (.int p4), .val (.long bud), .second, .val (.ref b2), .unset, .unset, .unset, .unset, .unset, .unset, .unset, .unset, .unset, .unset, .unset, .unset, .unset, .unset, .unset, .unset, .unset] [(.long bud)]))
    refine own_via (X3.ldc2Long hx hown (mvT hZ (hw _ (List.mem_of_getElem? (i := 31) rfl))) (g := (mkF m 38 #[.val (.long q0), .second, .val (.long q1), .second, .val (.long q2), .second, .val (.long q3), .second, .val (.int p4), .val (.long bud), .second, .val (.ref b2), .unset, .unset, .unset, .unset, .unset, .unset, .unset, .unset, .unset, .unset, .unset, .unset, .unset, .unset, .unset, .unset, .unset] [(.long bud)])) rfl (hb hby at_38)) ?_
    show OwnEnds p.tables e below _ (T3.setTop (mkF m 41 #[.val (.long q0), .second, .val (.long q1), .second, .val (.long q2), .second, .val (.long q3), .second, .val (.int p4), .val (.long bud), .second, .val (.ref b2), .unset, .unset, .unset, .unset, .unset, .unset, .unset, .unset, .unset, .unset, .unset, .unset, .unset, .unset, .unset, .unset, .unset] [(.long (4 : Int64)), (.long bud)]))
    refine own_via (fun t k => XS.ldiv X3.here hx rfl (hb hby at_41) rfl (by decide) k) ?_
    show OwnEnds p.tables e below _ (T3.setTop (mkF m 42 #[.val (.long q0), .second, .val (.long q1), .second, .val (.long q2), .second, .val (.long q3), .second, .val (.int p4), .val (.long bud), .second, .val (.ref b2), .unset, .unset, .unset, .unset, .unset, .unset, .unset, .unset, .unset, .unset, .unset, .unset, .unset, .unset, .unset, .unset, .unset] [(.long (bud / (4 : Int64)))]))
    obtain ⟨qq, h_qq⟩ : ∃ z, z = (bud / (4 : Int64)) := ⟨_, rfl⟩
    rw [← h_qq]
    have hin := own_q hbud h_qq
    refine own_via (fun t k => XS.lstore X3.here hx rfl (hb hby at_42) rfl (l' := #[.val (.long q0), .second, .val (.long q1), .second, .val (.long q2), .second, .val (.long q3), .second, .val (.int p4), .val (.long bud), .second, .val (.ref b2), .val (.long qq), .second, .unset, .unset, .unset, .unset, .unset, .unset, .unset, .unset, .unset, .unset, .unset, .unset, .unset, .unset, .unset]) rfl k) ?_
    show OwnEnds p.tables e below _ (T3.setTop (mkF m 44 #[.val (.long q0), .second, .val (.long q1), .second, .val (.long q2), .second, .val (.long q3), .second, .val (.int p4), .val (.long bud), .second, .val (.ref b2), .val (.long qq), .second, .unset, .unset, .unset, .unset, .unset, .unset, .unset, .unset, .unset, .unset, .unset, .unset, .unset, .unset, .unset] []))
    refine own_via (fun t k => XS.lconst X3.here hx rfl (hb hby at_44) k) ?_
    show OwnEnds p.tables e below _ (T3.setTop (mkF m 45 #[.val (.long q0), .second, .val (.long q1), .second, .val (.long q2), .second, .val (.long q3), .second, .val (.int p4), .val (.long bud), .second, .val (.ref b2), .val (.long qq), .second, .unset, .unset, .unset, .unset, .unset, .unset, .unset, .unset, .unset, .unset, .unset, .unset, .unset, .unset, .unset] [(.long (0 : Int64))]))
    refine own_via (fun t k => XS.lstore X3.here hx rfl (hb hby at_45) rfl (l' := #[.val (.long q0), .second, .val (.long q1), .second, .val (.long q2), .second, .val (.long q3), .second, .val (.int p4), .val (.long bud), .second, .val (.ref b2), .val (.long qq), .second, .val (.long (0 : Int64)), .second, .unset, .unset, .unset, .unset, .unset, .unset, .unset, .unset, .unset, .unset, .unset, .unset, .unset]) rfl k) ?_
    show OwnEnds p.tables e below _ (T3.setTop (mkF m 47 #[.val (.long q0), .second, .val (.long q1), .second, .val (.long q2), .second, .val (.long q3), .second, .val (.int p4), .val (.long bud), .second, .val (.ref b2), .val (.long qq), .second, .val (.long (0 : Int64)), .second, .unset, .unset, .unset, .unset, .unset, .unset, .unset, .unset, .unset, .unset, .unset, .unset, .unset] []))
    refine own_via (fun t k => XS.iconst X3.here hx rfl (hb hby at_47) k) ?_
    show OwnEnds p.tables e below _ (T3.setTop (mkF m 48 #[.val (.long q0), .second, .val (.long q1), .second, .val (.long q2), .second, .val (.long q3), .second, .val (.int p4), .val (.long bud), .second, .val (.ref b2), .val (.long qq), .second, .val (.long (0 : Int64)), .second, .unset, .unset, .unset, .unset, .unset, .unset, .unset, .unset, .unset, .unset, .unset, .unset, .unset] [(.int (1 : Int32))]))
    refine own_via (fun t k => XS.istore X3.here hx rfl (hb hby at_48) rfl (l' := #[.val (.long q0), .second, .val (.long q1), .second, .val (.long q2), .second, .val (.long q3), .second, .val (.int p4), .val (.long bud), .second, .val (.ref b2), .val (.long qq), .second, .val (.long (0 : Int64)), .second, .val (.int (1 : Int32)), .unset, .unset, .unset, .unset, .unset, .unset, .unset, .unset, .unset, .unset, .unset, .unset]) rfl k) ?_
    show OwnEnds p.tables e below _ (T3.setTop (mkF m 50 #[.val (.long q0), .second, .val (.long q1), .second, .val (.long q2), .second, .val (.long q3), .second, .val (.int p4), .val (.long bud), .second, .val (.ref b2), .val (.long qq), .second, .val (.long (0 : Int64)), .second, .val (.int (1 : Int32)), .unset, .unset, .unset, .unset, .unset, .unset, .unset, .unset, .unset, .unset, .unset, .unset] []))
    refine own_via (fun t k => XS.lloadN X3.here hx rfl (hb hby at_50) rfl k) ?_
    show OwnEnds p.tables e below _ (T3.setTop (mkF m 51 #[.val (.long q0), .second, .val (.long q1), .second, .val (.long q2), .second, .val (.long q3), .second, .val (.int p4), .val (.long bud), .second, .val (.ref b2), .val (.long qq), .second, .val (.long (0 : Int64)), .second, .val (.int (1 : Int32)), .unset, .unset, .unset, .unset, .unset, .unset, .unset, .unset, .unset, .unset, .unset, .unset] [(.long q1)]))
    refine own_via (fun t k => XS.iload X3.here hx rfl (hb hby at_51) rfl k) ?_
    show OwnEnds p.tables e below _ (T3.setTop (mkF m 53 #[.val (.long q0), .second, .val (.long q1), .second, .val (.long q2), .second, .val (.long q3), .second, .val (.int p4), .val (.long bud), .second, .val (.ref b2), .val (.long qq), .second, .val (.long (0 : Int64)), .second, .val (.int (1 : Int32)), .unset, .unset, .unset, .unset, .unset, .unset, .unset, .unset, .unset, .unset, .unset, .unset] [(.int p4), (.long q1)]))
    refine own_via (fun t k => XS.lload X3.here hx rfl (hb hby at_53) rfl k) ?_
    show OwnEnds p.tables e below _ (T3.setTop (mkF m 55 #[.val (.long q0), .second, .val (.long q1), .second, .val (.long q2), .second, .val (.long q3), .second, .val (.int p4), .val (.long bud), .second, .val (.ref b2), .val (.long qq), .second, .val (.long (0 : Int64)), .second, .val (.int (1 : Int32)), .unset, .unset, .unset, .unset, .unset, .unset, .unset, .unset, .unset, .unset, .unset, .unset] [(.long qq), (.int p4), (.long q1)]))
    refine own_via (fun t k => XS.lload X3.here hx rfl (hb hby at_55) rfl k) ?_
    show OwnEnds p.tables e below _ (T3.setTop (mkF m 57 #[.val (.long q0), .second, .val (.long q1), .second, .val (.long q2), .second, .val (.long q3), .second, .val (.int p4), .val (.long bud), .second, .val (.ref b2), .val (.long qq), .second, .val (.long (0 : Int64)), .second, .val (.int (1 : Int32)), .unset, .unset, .unset, .unset, .unset, .unset, .unset, .unset, .unset, .unset, .unset, .unset] [(.long (0 : Int64)), (.long qq), (.int p4), (.long q1)]))
    refine own_via (fun t k => XS.lsub X3.here hx rfl (hb hby at_57) rfl k) ?_
    show OwnEnds p.tables e below _ (T3.setTop (mkF m 58 #[.val (.long q0), .second, .val (.long q1), .second, .val (.long q2), .second, .val (.long q3), .second, .val (.int p4), .val (.long bud), .second, .val (.ref b2), .val (.long qq), .second, .val (.long (0 : Int64)), .second, .val (.int (1 : Int32)), .unset, .unset, .unset, .unset, .unset, .unset, .unset, .unset, .unset, .unset, .unset, .unset] [(.long (qq - (0 : Int64))), (.int p4), (.long q1)]))
    obtain ⟨_, _, ⟨T4, L4, k4, n4⟩, -, X4, ⟨Lc4, hQ4, l4, y4, z4⟩, st4⟩ := Jvm.LawKit.callS X3 hx (y := (⟨"com/example/linkstage/linkstage/core/DeclarationCacheReservePinLaw", "pick", "(JIJ)J"⟩ : MethodName)) hown (mvT hZ (hw _ (List.mem_of_getElem? (i := 32) rfl))) (mvT hZ (hw _ (List.mem_of_getElem? (i := 33) rfl))) (mvT hZ (hw _ (List.mem_of_getElem? (i := 34) rfl))) (mvT hZ (hw _ (List.mem_of_getElem? (i := 35) rfl))) (by decide) (backOf (W := 0) (rm5 l Z aw hw [] q1 p4 (qq - (0 : Int64)) h3 n0 Zs_3 (own_room hin)) hZ (hw _ (List.mem_of_getElem? (i := 35) rfl)) (hw _ (List.mem_of_getElem? (i := 34) rfl)) (by decide) (by decide)) (g := (mkF m 58 #[.val (.long q0), .second, .val (.long q1), .second, .val (.long q2), .second, .val (.long q3), .second, .val (.int p4), .val (.long bud), .second, .val (.ref b2), .val (.long qq), .second, .val (.long (0 : Int64)), .second, .val (.int (1 : Int32)), .unset, .unset, .unset, .unset, .unset, .unset, .unset, .unset, .unset, .unset, .unset, .unset] [(.long (qq - (0 : Int64))), (.int p4), (.long q1)])) rfl (by rw [hml]; rfl) (argsL := [(.long q1), (.int p4), (.long (qq - (0 : Int64)))]) (rest := []) (lenOf pd_2 rfl) rfl (by show 2 * 0 + _ ≤ _; exact Nat.le_of_eq rfl) (hb hby at_58) (fun _ _ => ⟨rfl, e3, (by decide : 3 + 0 ≤ _), (by decide : 26 + 0 ≤ _)⟩)
    dsimp only [Pt.U, Pt.locs, Pt.cells, Pt.slots] at X4 l4 y4 z4 st4 hQ4
    subst l4 y4 z4
    obtain ⟨rfl, Nq4, e4⟩ := hQ4
    have N4 := Fr.app N3 Nq4
    replace e4 : T4.heap = h3 := e4
    refine own_via st4 ?_
    show OwnEnds p.tables e below _ (T4.setTop (mkF m 61 #[.val (.long q0), .second, .val (.long q1), .second, .val (.long q2), .second, .val (.long q3), .second, .val (.int p4), .val (.long bud), .second, .val (.ref b2), .val (.long qq), .second, .val (.long (0 : Int64)), .second, .val (.int (1 : Int32)), .unset, .unset, .unset, .unset, .unset, .unset, .unset, .unset, .unset, .unset, .unset, .unset] [(.long (own_pick q1 p4 (qq - (0 : Int64))))]))
    obtain ⟨f1, h_f1⟩ : ∃ z, z = (own_pick q1 p4 (qq - (0 : Int64))) := ⟨_, rfl⟩
    rw [← h_f1]
    have hf1 := own_pk hin h_f1
    refine own_via (fun t k => XS.lstore X4.here hx rfl (hb hby at_61) rfl (l' := #[.val (.long q0), .second, .val (.long q1), .second, .val (.long q2), .second, .val (.long q3), .second, .val (.int p4), .val (.long bud), .second, .val (.ref b2), .val (.long qq), .second, .val (.long (0 : Int64)), .second, .val (.int (1 : Int32)), .val (.long f1), .second, .unset, .unset, .unset, .unset, .unset, .unset, .unset, .unset, .unset, .unset]) rfl k) ?_
    show OwnEnds p.tables e below _ (T4.setTop (mkF m 63 #[.val (.long q0), .second, .val (.long q1), .second, .val (.long q2), .second, .val (.long q3), .second, .val (.int p4), .val (.long bud), .second, .val (.ref b2), .val (.long qq), .second, .val (.long (0 : Int64)), .second, .val (.int (1 : Int32)), .val (.long f1), .second, .unset, .unset, .unset, .unset, .unset, .unset, .unset, .unset, .unset, .unset] []))
    refine own_via (fun t k => XS.lload X4.here hx rfl (hb hby at_63) rfl k) ?_
    show OwnEnds p.tables e below _ (T4.setTop (mkF m 65 #[.val (.long q0), .second, .val (.long q1), .second, .val (.long q2), .second, .val (.long q3), .second, .val (.int p4), .val (.long bud), .second, .val (.ref b2), .val (.long qq), .second, .val (.long (0 : Int64)), .second, .val (.int (1 : Int32)), .val (.long f1), .second, .unset, .unset, .unset, .unset, .unset, .unset, .unset, .unset, .unset, .unset] [(.long f1)]))
    refine own_via (fun t k => XS.lload X4.here hx rfl (hb hby at_65) rfl k) ?_
    show OwnEnds p.tables e below _ (T4.setTop (mkF m 67 #[.val (.long q0), .second, .val (.long q1), .second, .val (.long q2), .second, .val (.long q3), .second, .val (.int p4), .val (.long bud), .second, .val (.ref b2), .val (.long qq), .second, .val (.long (0 : Int64)), .second, .val (.int (1 : Int32)), .val (.long f1), .second, .unset, .unset, .unset, .unset, .unset, .unset, .unset, .unset, .unset, .unset] [(.long qq), (.long f1)]))
    refine own_via (fun t k => XS.lload X4.here hx rfl (hb hby at_67) rfl k) ?_
    show OwnEnds p.tables e below _ (T4.setTop (mkF m 69 #[.val (.long q0), .second, .val (.long q1), .second, .val (.long q2), .second, .val (.long q3), .second, .val (.int p4), .val (.long bud), .second, .val (.ref b2), .val (.long qq), .second, .val (.long (0 : Int64)), .second, .val (.int (1 : Int32)), .val (.long f1), .second, .unset, .unset, .unset, .unset, .unset, .unset, .unset, .unset, .unset, .unset] [(.long (0 : Int64)), (.long qq), (.long f1)]))
    refine own_via (fun t k => XS.lsub X4.here hx rfl (hb hby at_69) rfl k) ?_
    show OwnEnds p.tables e below _ (T4.setTop (mkF m 70 #[.val (.long q0), .second, .val (.long q1), .second, .val (.long q2), .second, .val (.long q3), .second, .val (.int p4), .val (.long bud), .second, .val (.ref b2), .val (.long qq), .second, .val (.long (0 : Int64)), .second, .val (.int (1 : Int32)), .val (.long f1), .second, .unset, .unset, .unset, .unset, .unset, .unset, .unset, .unset, .unset, .unset] [(.long (qq - (0 : Int64))), (.long f1)]))
    refine own_via (fun t k => XS.lcmp X4.here hx rfl (hb hby at_70) rfl k) ?_
    show OwnEnds p.tables e below _ (T4.setTop (mkF m 71 #[.val (.long q0), .second, .val (.long q1), .second, .val (.long q2), .second, .val (.long q3), .second, .val (.int p4), .val (.long bud), .second, .val (.ref b2), .val (.long qq), .second, .val (.long (0 : Int64)), .second, .val (.int (1 : Int32)), .val (.long f1), .second, .unset, .unset, .unset, .unset, .unset, .unset, .unset, .unset, .unset, .unset] [(.int (lcmpW f1 (qq - (0 : Int64))))]))
    have J79_5 : ∀ ge1 : Int32, ge1 = (if (qq - (0 : Int64)) < f1 then (0 : Int32) else (1 : Int32)) → OwnEnds p.tables e below (OwnQ s 16 128 (Q0 Z q0 q1 q2 q3 p4 h0 n0)) (T4.setTop (mkF m 79 #[.val (.long q0), .second, .val (.long q1), .second, .val (.long q2), .second, .val (.long q3), .second, .val (.int p4), .val (.long bud), .second, .val (.ref b2), .val (.long qq), .second, .val (.long (0 : Int64)), .second, .val (.int (1 : Int32)), .val (.long f1), .second, .unset, .unset, .unset, .unset, .unset, .unset, .unset, .unset, .unset, .unset] [(.int ge1)])) := by
      intro ge1 h_ge1
      refine own_via (fun t k => XS.istore X4.here hx rfl (hb hby at_79) rfl (l' := #[.val (.long q0), .second, .val (.long q1), .second, .val (.long q2), .second, .val (.long q3), .second, .val (.int p4), .val (.long bud), .second, .val (.ref b2), .val (.long qq), .second, .val (.long (0 : Int64)), .second, .val (.int (1 : Int32)), .val (.long f1), .second, .val (.int ge1), .unset, .unset, .unset, .unset, .unset, .unset, .unset, .unset, .unset]) rfl k) ?_
      show OwnEnds p.tables e below _ (T4.setTop (mkF m 81 #[.val (.long q0), .second, .val (.long q1), .second, .val (.long q2), .second, .val (.long q3), .second, .val (.int p4), .val (.long bud), .second, .val (.ref b2), .val (.long qq), .second, .val (.long (0 : Int64)), .second, .val (.int (1 : Int32)), .val (.long f1), .second, .val (.int ge1), .unset, .unset, .unset, .unset, .unset, .unset, .unset, .unset, .unset] []))
      refine own_via (fun t k => XS.aload X4.here hx rfl (hb hby at_81) rfl rfl k) ?_
      show OwnEnds p.tables e below _ (T4.setTop (mkF m 83 #[.val (.long q0), .second, .val (.long q1), .second, .val (.long q2), .second, .val (.long q3), .second, .val (.int p4), .val (.long bud), .second, .val (.ref b2), .val (.long qq), .second, .val (.long (0 : Int64)), .second, .val (.int (1 : Int32)), .val (.long f1), .second, .val (.int ge1), .unset, .unset, .unset, .unset, .unset, .unset, .unset, .unset, .unset] [(.ref b2)]))
      refine own_via (fun t k => XS.lload X4.here hx rfl (hb hby at_83) rfl k) ?_
      show OwnEnds p.tables e below _ (T4.setTop (mkF m 85 #[.val (.long q0), .second, .val (.long q1), .second, .val (.long q2), .second, .val (.long q3), .second, .val (.int p4), .val (.long bud), .second, .val (.ref b2), .val (.long qq), .second, .val (.long (0 : Int64)), .second, .val (.int (1 : Int32)), .val (.long f1), .second, .val (.int ge1), .unset, .unset, .unset, .unset, .unset, .unset, .unset, .unset, .unset] [(.long f1), (.ref b2)]))
      obtain ⟨cq6, kq6, q6a, q6b, q6c⟩ := isOf hZ e4 E_b2
      obtain ⟨_, _, ⟨T6, L6, k6, n6⟩, -, X6, ⟨Lc6, hQ6, l6, y6, z6⟩, st6⟩ := X4.virtualBack hx (y := (⟨"com/example/linkstage/linkstage/core/DeclarationCache", "reserve", "(J)Z"⟩ : MethodName)) (z := (⟨"com/example/linkstage/linkstage/core/DeclarationCache", "reserve", "(J)Z"⟩ : MethodName)) hown (mvT hZ (hw _ (List.mem_of_getElem? (i := 37) rfl))) (mvT hZ (hw _ (List.mem_of_getElem? (i := 38) rfl))) (notFace_of_selects (args := #[]) (mvT hZ (hw _ (List.mem_of_getElem? (i := 40) rfl)))) (mvT hZ (hw _ (List.mem_of_getElem? (i := 40) rfl))) (mvT hZ (hw _ (List.mem_of_getElem? (i := 39) rfl))) (by decide) (backOf (W := 0) (rm6 l Z aw hw [] b2 f1 bud (0 : Int64) h3 n0 Zs_3 E_b2 F_budget_b2 F_reserved_b2 g_b2) hZ (hw _ (List.mem_of_getElem? (i := 41) rfl)) (hw _ (List.mem_of_getElem? (i := 3) rfl)) (by decide) (by decide)) q6a q6c (g := (mkF m 85 #[.val (.long q0), .second, .val (.long q1), .second, .val (.long q2), .second, .val (.long q3), .second, .val (.int p4), .val (.long bud), .second, .val (.ref b2), .val (.long qq), .second, .val (.long (0 : Int64)), .second, .val (.int (1 : Int32)), .val (.long f1), .second, .val (.int ge1), .unset, .unset, .unset, .unset, .unset, .unset, .unset, .unset, .unset] [(.long f1), (.ref b2)])) rfl (by rw [hml]; rfl) (Steps.refl _) (argsL := [(.long f1)]) (rest := []) (lenOf pd_3 rfl) rfl (by show 2 * 0 + _ ≤ _; exact Nat.le_of_eq rfl) (hb hby at_85) (fun _ _ => ⟨rfl, e4, (by decide : 3 + 0 ≤ _), (by decide : 26 + 0 ≤ _)⟩)
      dsimp only [Pt.U, Pt.locs, Pt.cells, Pt.slots] at X6 l6 y6 z6 st6 hQ6
      subst l6 y6 z6
      obtain ⟨h6, e6⟩ : ∃ z, T6.heap = z := ⟨_, rfl⟩
      rw [e6] at hQ6
      obtain ⟨rfl, Nq6, K6, Y6_0, Y6_1, Y6_2⟩ := hQ6
      have N6 := Fr.app N4 Nq6
      replace E_b2 := E_b2.keep K6
      have F_budget_b2 : Fld Z h6 b2 "com/example/linkstage/linkstage/core/DeclarationCache" "budget" "J" (.long bud) := Y6_1
      have F_reserved_b2 : Fld Z h6 b2 "com/example/linkstage/linkstage/core/DeclarationCache" "reserved" "J" (.long (own_nr (0 : Int64) f1 bud)) := Y6_2
      have Zs_6 : n0 ≤ _ := Nat.le_trans Zs_3 K6.1
      refine own_of st6 ?_
      show OwnEnds p.tables e below _ (T6.setTop (mkF m 88 #[.val (.long q0), .second, .val (.long q1), .second, .val (.long q2), .second, .val (.long q3), .second, .val (.int p4), .val (.long bud), .second, .val (.ref b2), .val (.long qq), .second, .val (.long (0 : Int64)), .second, .val (.int (1 : Int32)), .val (.long f1), .second, .val (.int ge1), .unset, .unset, .unset, .unset, .unset, .unset, .unset, .unset, .unset] [(.int (own_res (0 : Int64) f1 bud))]))
      refine own_via (fun t k => XS.istore X6.here hx rfl (hb hby at_88) rfl (l' := #[.val (.long q0), .second, .val (.long q1), .second, .val (.long q2), .second, .val (.long q3), .second, .val (.int p4), .val (.long bud), .second, .val (.ref b2), .val (.long qq), .second, .val (.long (0 : Int64)), .second, .val (.int (1 : Int32)), .val (.long f1), .second, .val (.int ge1), .val (.int (own_res (0 : Int64) f1 bud)), .unset, .unset, .unset, .unset, .unset, .unset, .unset, .unset]) rfl k) ?_
      show OwnEnds p.tables e below _ (T6.setTop (mkF m 90 #[.val (.long q0), .second, .val (.long q1), .second, .val (.long q2), .second, .val (.long q3), .second, .val (.int p4), .val (.long bud), .second, .val (.ref b2), .val (.long qq), .second, .val (.long (0 : Int64)), .second, .val (.int (1 : Int32)), .val (.long f1), .second, .val (.int ge1), .val (.int (own_res (0 : Int64) f1 bud)), .unset, .unset, .unset, .unset, .unset, .unset, .unset, .unset] []))
      refine own_via (fun t k => XS.iload X6.here hx rfl (hb hby at_90) rfl k) ?_
      show OwnEnds p.tables e below _ (T6.setTop (mkF m 92 #[.val (.long q0), .second, .val (.long q1), .second, .val (.long q2), .second, .val (.long q3), .second, .val (.int p4), .val (.long bud), .second, .val (.ref b2), .val (.long qq), .second, .val (.long (0 : Int64)), .second, .val (.int (1 : Int32)), .val (.long f1), .second, .val (.int ge1), .val (.int (own_res (0 : Int64) f1 bud)), .unset, .unset, .unset, .unset, .unset, .unset, .unset, .unset] [(.int (1 : Int32))]))
      have hc92_7 : ¬ ((1 : Int32) = (0 : Int32)) := by decide
      refine own_via (fun t k => XS.ifNo X6.here hx rfl (hb hby at_92) rfl ((if0 _ _).trans (feq hc92_7).1) k) ?_
      show OwnEnds p.tables e below _ (T6.setTop (mkF m 95 #[.val (.long q0), .second, .val (.long q1), .second, .val (.long q2), .second, .val (.long q3), .second, .val (.int p4), .val (.long bud), .second, .val (.ref b2), .val (.long qq), .second, .val (.long (0 : Int64)), .second, .val (.int (1 : Int32)), .val (.long f1), .second, .val (.int ge1), .val (.int (own_res (0 : Int64) f1 bud)), .unset, .unset, .unset, .unset, .unset, .unset, .unset, .unset] []))
      refine own_via (fun t k => XS.iload X6.here hx rfl (hb hby at_95) rfl k) ?_
      show OwnEnds p.tables e below _ (T6.setTop (mkF m 97 #[.val (.long q0), .second, .val (.long q1), .second, .val (.long q2), .second, .val (.long q3), .second, .val (.int p4), .val (.long bud), .second, .val (.ref b2), .val (.long qq), .second, .val (.long (0 : Int64)), .second, .val (.int (1 : Int32)), .val (.long f1), .second, .val (.int ge1), .val (.int (own_res (0 : Int64) f1 bud)), .unset, .unset, .unset, .unset, .unset, .unset, .unset, .unset] [(.int (own_res (0 : Int64) f1 bud))]))
      refine own_via (fun t k => XS.iload X6.here hx rfl (hb hby at_97) rfl k) ?_
      show OwnEnds p.tables e below _ (T6.setTop (mkF m 99 #[.val (.long q0), .second, .val (.long q1), .second, .val (.long q2), .second, .val (.long q3), .second, .val (.int p4), .val (.long bud), .second, .val (.ref b2), .val (.long qq), .second, .val (.long (0 : Int64)), .second, .val (.int (1 : Int32)), .val (.long f1), .second, .val (.int ge1), .val (.int (own_res (0 : Int64) f1 bud)), .unset, .unset, .unset, .unset, .unset, .unset, .unset, .unset] [(.int ge1), (.int (own_res (0 : Int64) f1 bud))]))
      have hc99_8 : (own_res (0 : Int64) f1 bud) = ge1 := own_ge hin h_qq hf1 h_ge1
      refine own_via (fun t k => XS.icmpNo X6.here hx rfl (hb hby at_99) rfl (teq hc99_8).2 k) ?_
      show OwnEnds p.tables e below _ (T6.setTop (mkF m 102 #[.val (.long q0), .second, .val (.long q1), .second, .val (.long q2), .second, .val (.long q3), .second, .val (.int p4), .val (.long bud), .second, .val (.ref b2), .val (.long qq), .second, .val (.long (0 : Int64)), .second, .val (.int (1 : Int32)), .val (.long f1), .second, .val (.int ge1), .val (.int (own_res (0 : Int64) f1 bud)), .unset, .unset, .unset, .unset, .unset, .unset, .unset, .unset] []))
      refine own_via (fun t k => XS.iconst X6.here hx rfl (hb hby at_102) k) ?_
      show OwnEnds p.tables e below _ (T6.setTop (mkF m 103 #[.val (.long q0), .second, .val (.long q1), .second, .val (.long q2), .second, .val (.long q3), .second, .val (.int p4), .val (.long bud), .second, .val (.ref b2), .val (.long qq), .second, .val (.long (0 : Int64)), .second, .val (.int (1 : Int32)), .val (.long f1), .second, .val (.int ge1), .val (.int (own_res (0 : Int64) f1 bud)), .unset, .unset, .unset, .unset, .unset, .unset, .unset, .unset] [(.int (1 : Int32))]))
      refine own_via (fun t k => XS.goto X6.here hx rfl (pc0 := 103) (pc' := 107) rfl (hb hby at_103) (by decide) (by decide) k) ?_
      show OwnEnds p.tables e below _ (T6.setTop (mkF m 107 #[.val (.long q0), .second, .val (.long q1), .second, .val (.long q2), .second, .val (.long q3), .second, .val (.int p4), .val (.long bud), .second, .val (.ref b2), .val (.long qq), .second, .val (.long (0 : Int64)), .second, .val (.int (1 : Int32)), .val (.long f1), .second, .val (.int ge1), .val (.int (own_res (0 : Int64) f1 bud)), .unset, .unset, .unset, .unset, .unset, .unset, .unset, .unset] [(.int (1 : Int32))]))
      refine own_via (fun t k => XS.istore X6.here hx rfl (hb hby at_107) rfl (l' := #[.val (.long q0), .second, .val (.long q1), .second, .val (.long q2), .second, .val (.long q3), .second, .val (.int p4), .val (.long bud), .second, .val (.ref b2), .val (.long qq), .second, .val (.long (0 : Int64)), .second, .val (.int (1 : Int32)), .val (.long f1), .second, .val (.int ge1), .val (.int (own_res (0 : Int64) f1 bud)), .unset, .unset, .unset, .unset, .unset, .unset, .unset, .unset]) rfl k) ?_
      show OwnEnds p.tables e below _ (T6.setTop (mkF m 109 #[.val (.long q0), .second, .val (.long q1), .second, .val (.long q2), .second, .val (.long q3), .second, .val (.int p4), .val (.long bud), .second, .val (.ref b2), .val (.long qq), .second, .val (.long (0 : Int64)), .second, .val (.int (1 : Int32)), .val (.long f1), .second, .val (.int ge1), .val (.int (own_res (0 : Int64) f1 bud)), .unset, .unset, .unset, .unset, .unset, .unset, .unset, .unset] []))
      refine own_via (fun t k => XS.iload X6.here hx rfl (hb hby at_109) rfl k) ?_
      show OwnEnds p.tables e below _ (T6.setTop (mkF m 111 #[.val (.long q0), .second, .val (.long q1), .second, .val (.long q2), .second, .val (.long q3), .second, .val (.int p4), .val (.long bud), .second, .val (.ref b2), .val (.long qq), .second, .val (.long (0 : Int64)), .second, .val (.int (1 : Int32)), .val (.long f1), .second, .val (.int ge1), .val (.int (own_res (0 : Int64) f1 bud)), .unset, .unset, .unset, .unset, .unset, .unset, .unset, .unset] [(.int ge1)]))
      have J121_9 : ∀ r1 : Int64, r1 = (if ge1 = (0 : Int32) then (0 : Int64) else ((0 : Int64) + f1)) → OwnEnds p.tables e below (OwnQ s 16 128 (Q0 Z q0 q1 q2 q3 p4 h0 n0)) (T6.setTop (mkF m 121 #[.val (.long q0), .second, .val (.long q1), .second, .val (.long q2), .second, .val (.long q3), .second, .val (.int p4), .val (.long bud), .second, .val (.ref b2), .val (.long qq), .second, .val (.long r1), .second, .val (.int (1 : Int32)), .val (.long f1), .second, .val (.int ge1), .val (.int (own_res (0 : Int64) f1 bud)), .unset, .unset, .unset, .unset, .unset, .unset, .unset, .unset] [])) := by
        intro r1 h_r1
        have hin1 := own_inv hin hf1 h_ge1 h_r1
        rw [own_nrEq hin h_qq hf1 h_ge1 h_r1] at F_reserved_b2
        clear hin
        have hin := hin1
        refine own_via (fun t k => XS.lload X6.here hx rfl (hb hby at_121) rfl k) ?_
        show OwnEnds p.tables e below _ (T6.setTop (mkF m 123 #[.val (.long q0), .second, .val (.long q1), .second, .val (.long q2), .second, .val (.long q3), .second, .val (.int p4), .val (.long bud), .second, .val (.ref b2), .val (.long qq), .second, .val (.long r1), .second, .val (.int (1 : Int32)), .val (.long f1), .second, .val (.int ge1), .val (.int (own_res (0 : Int64) f1 bud)), .unset, .unset, .unset, .unset, .unset, .unset, .unset, .unset] [(.long q2)]))
        refine own_via (fun t k => XS.iload X6.here hx rfl (hb hby at_123) rfl k) ?_
        show OwnEnds p.tables e below _ (T6.setTop (mkF m 125 #[.val (.long q0), .second, .val (.long q1), .second, .val (.long q2), .second, .val (.long q3), .second, .val (.int p4), .val (.long bud), .second, .val (.ref b2), .val (.long qq), .second, .val (.long r1), .second, .val (.int (1 : Int32)), .val (.long f1), .second, .val (.int ge1), .val (.int (own_res (0 : Int64) f1 bud)), .unset, .unset, .unset, .unset, .unset, .unset, .unset, .unset] [(.int p4), (.long q2)]))
        refine own_via (fun t k => XS.iconst X6.here hx rfl (hb hby at_125) k) ?_
        show OwnEnds p.tables e below _ (T6.setTop (mkF m 126 #[.val (.long q0), .second, .val (.long q1), .second, .val (.long q2), .second, .val (.long q3), .second, .val (.int p4), .val (.long bud), .second, .val (.ref b2), .val (.long qq), .second, .val (.long r1), .second, .val (.int (1 : Int32)), .val (.long f1), .second, .val (.int ge1), .val (.int (own_res (0 : Int64) f1 bud)), .unset, .unset, .unset, .unset, .unset, .unset, .unset, .unset] [(.int (2 : Int32)), (.int p4), (.long q2)]))
        refine own_via (fun t k => XS.ishr X6.here hx rfl (hb hby at_126) rfl k) ?_
        show OwnEnds p.tables e below _ (T6.setTop (mkF m 127 #[.val (.long q0), .second, .val (.long q1), .second, .val (.long q2), .second, .val (.long q3), .second, .val (.int p4), .val (.long bud), .second, .val (.ref b2), .val (.long qq), .second, .val (.long r1), .second, .val (.int (1 : Int32)), .val (.long f1), .second, .val (.int ge1), .val (.int (own_res (0 : Int64) f1 bud)), .unset, .unset, .unset, .unset, .unset, .unset, .unset, .unset] [(.int (p4 >>> ((2 : Int32) &&& 31))), (.long q2)]))
        refine own_via (fun t k => XS.lload X6.here hx rfl (hb hby at_127) rfl k) ?_
        show OwnEnds p.tables e below _ (T6.setTop (mkF m 129 #[.val (.long q0), .second, .val (.long q1), .second, .val (.long q2), .second, .val (.long q3), .second, .val (.int p4), .val (.long bud), .second, .val (.ref b2), .val (.long qq), .second, .val (.long r1), .second, .val (.int (1 : Int32)), .val (.long f1), .second, .val (.int ge1), .val (.int (own_res (0 : Int64) f1 bud)), .unset, .unset, .unset, .unset, .unset, .unset, .unset, .unset] [(.long qq), (.int (p4 >>> ((2 : Int32) &&& 31))), (.long q2)]))
        refine own_via (fun t k => XS.lload X6.here hx rfl (hb hby at_129) rfl k) ?_
        show OwnEnds p.tables e below _ (T6.setTop (mkF m 131 #[.val (.long q0), .second, .val (.long q1), .second, .val (.long q2), .second, .val (.long q3), .second, .val (.int p4), .val (.long bud), .second, .val (.ref b2), .val (.long qq), .second, .val (.long r1), .second, .val (.int (1 : Int32)), .val (.long f1), .second, .val (.int ge1), .val (.int (own_res (0 : Int64) f1 bud)), .unset, .unset, .unset, .unset, .unset, .unset, .unset, .unset] [(.long r1), (.long qq), (.int (p4 >>> ((2 : Int32) &&& 31))), (.long q2)]))
        refine own_via (fun t k => XS.lsub X6.here hx rfl (hb hby at_131) rfl k) ?_
        show OwnEnds p.tables e below _ (T6.setTop (mkF m 132 #[.val (.long q0), .second, .val (.long q1), .second, .val (.long q2), .second, .val (.long q3), .second, .val (.int p4), .val (.long bud), .second, .val (.ref b2), .val (.long qq), .second, .val (.long r1), .second, .val (.int (1 : Int32)), .val (.long f1), .second, .val (.int ge1), .val (.int (own_res (0 : Int64) f1 bud)), .unset, .unset, .unset, .unset, .unset, .unset, .unset, .unset] [(.long (qq - r1)), (.int (p4 >>> ((2 : Int32) &&& 31))), (.long q2)]))
        obtain ⟨_, _, ⟨T10, L10, k10, n10⟩, -, X10, ⟨Lc10, hQ10, l10, y10, z10⟩, st10⟩ := Jvm.LawKit.callS X6 hx (y := (⟨"com/example/linkstage/linkstage/core/DeclarationCacheReservePinLaw", "pick", "(JIJ)J"⟩ : MethodName)) hown (mvT hZ (hw _ (List.mem_of_getElem? (i := 32) rfl))) (mvT hZ (hw _ (List.mem_of_getElem? (i := 33) rfl))) (mvT hZ (hw _ (List.mem_of_getElem? (i := 34) rfl))) (mvT hZ (hw _ (List.mem_of_getElem? (i := 35) rfl))) (by decide) (backOf (W := 0) (rm5 l Z aw hw [] q2 (p4 >>> ((2 : Int32) &&& 31)) (qq - r1) h6 n0 Zs_6 (own_room hin)) hZ (hw _ (List.mem_of_getElem? (i := 35) rfl)) (hw _ (List.mem_of_getElem? (i := 34) rfl)) (by decide) (by decide)) (g := (mkF m 132 #[.val (.long q0), .second, .val (.long q1), .second, .val (.long q2), .second, .val (.long q3), .second, .val (.int p4), .val (.long bud), .second, .val (.ref b2), .val (.long qq), .second, .val (.long r1), .second, .val (.int (1 : Int32)), .val (.long f1), .second, .val (.int ge1), .val (.int (own_res (0 : Int64) f1 bud)), .unset, .unset, .unset, .unset, .unset, .unset, .unset, .unset] [(.long (qq - r1)), (.int (p4 >>> ((2 : Int32) &&& 31))), (.long q2)])) rfl (by rw [hml]; rfl) (argsL := [(.long q2), (.int (p4 >>> ((2 : Int32) &&& 31))), (.long (qq - r1))]) (rest := []) (lenOf pd_2 rfl) rfl (by show 2 * 0 + _ ≤ _; exact Nat.le_of_eq rfl) (hb hby at_132) (fun _ _ => ⟨rfl, e6, (by decide : 3 + 0 ≤ _), (by decide : 26 + 0 ≤ _)⟩)
        dsimp only [Pt.U, Pt.locs, Pt.cells, Pt.slots] at X10 l10 y10 z10 st10 hQ10
        subst l10 y10 z10
        obtain ⟨rfl, Nq10, e10⟩ := hQ10
        have N10 := Fr.app N6 Nq10
        replace e10 : T10.heap = h6 := e10
        refine own_via st10 ?_
        show OwnEnds p.tables e below _ (T10.setTop (mkF m 135 #[.val (.long q0), .second, .val (.long q1), .second, .val (.long q2), .second, .val (.long q3), .second, .val (.int p4), .val (.long bud), .second, .val (.ref b2), .val (.long qq), .second, .val (.long r1), .second, .val (.int (1 : Int32)), .val (.long f1), .second, .val (.int ge1), .val (.int (own_res (0 : Int64) f1 bud)), .unset, .unset, .unset, .unset, .unset, .unset, .unset, .unset] [(.long (own_pick q2 (p4 >>> ((2 : Int32) &&& 31)) (qq - r1)))]))
        obtain ⟨f2, h_f2⟩ : ∃ z, z = (own_pick q2 (p4 >>> ((2 : Int32) &&& 31)) (qq - r1)) := ⟨_, rfl⟩
        rw [← h_f2]
        have hf2 := own_pk hin h_f2
        refine own_via (fun t k => XS.lstore X10.here hx rfl (hb hby at_135) rfl (l' := #[.val (.long q0), .second, .val (.long q1), .second, .val (.long q2), .second, .val (.long q3), .second, .val (.int p4), .val (.long bud), .second, .val (.ref b2), .val (.long qq), .second, .val (.long r1), .second, .val (.int (1 : Int32)), .val (.long f1), .second, .val (.int ge1), .val (.int (own_res (0 : Int64) f1 bud)), .val (.long f2), .second, .unset, .unset, .unset, .unset, .unset, .unset]) rfl k) ?_
        show OwnEnds p.tables e below _ (T10.setTop (mkF m 137 #[.val (.long q0), .second, .val (.long q1), .second, .val (.long q2), .second, .val (.long q3), .second, .val (.int p4), .val (.long bud), .second, .val (.ref b2), .val (.long qq), .second, .val (.long r1), .second, .val (.int (1 : Int32)), .val (.long f1), .second, .val (.int ge1), .val (.int (own_res (0 : Int64) f1 bud)), .val (.long f2), .second, .unset, .unset, .unset, .unset, .unset, .unset] []))
        refine own_via (fun t k => XS.lload X10.here hx rfl (hb hby at_137) rfl k) ?_
        show OwnEnds p.tables e below _ (T10.setTop (mkF m 139 #[.val (.long q0), .second, .val (.long q1), .second, .val (.long q2), .second, .val (.long q3), .second, .val (.int p4), .val (.long bud), .second, .val (.ref b2), .val (.long qq), .second, .val (.long r1), .second, .val (.int (1 : Int32)), .val (.long f1), .second, .val (.int ge1), .val (.int (own_res (0 : Int64) f1 bud)), .val (.long f2), .second, .unset, .unset, .unset, .unset, .unset, .unset] [(.long f2)]))
        refine own_via (fun t k => XS.lload X10.here hx rfl (hb hby at_139) rfl k) ?_
        show OwnEnds p.tables e below _ (T10.setTop (mkF m 141 #[.val (.long q0), .second, .val (.long q1), .second, .val (.long q2), .second, .val (.long q3), .second, .val (.int p4), .val (.long bud), .second, .val (.ref b2), .val (.long qq), .second, .val (.long r1), .second, .val (.int (1 : Int32)), .val (.long f1), .second, .val (.int ge1), .val (.int (own_res (0 : Int64) f1 bud)), .val (.long f2), .second, .unset, .unset, .unset, .unset, .unset, .unset] [(.long qq), (.long f2)]))
        refine own_via (fun t k => XS.lload X10.here hx rfl (hb hby at_141) rfl k) ?_
        show OwnEnds p.tables e below _ (T10.setTop (mkF m 143 #[.val (.long q0), .second, .val (.long q1), .second, .val (.long q2), .second, .val (.long q3), .second, .val (.int p4), .val (.long bud), .second, .val (.ref b2), .val (.long qq), .second, .val (.long r1), .second, .val (.int (1 : Int32)), .val (.long f1), .second, .val (.int ge1), .val (.int (own_res (0 : Int64) f1 bud)), .val (.long f2), .second, .unset, .unset, .unset, .unset, .unset, .unset] [(.long r1), (.long qq), (.long f2)]))
        refine own_via (fun t k => XS.lsub X10.here hx rfl (hb hby at_143) rfl k) ?_
        show OwnEnds p.tables e below _ (T10.setTop (mkF m 144 #[.val (.long q0), .second, .val (.long q1), .second, .val (.long q2), .second, .val (.long q3), .second, .val (.int p4), .val (.long bud), .second, .val (.ref b2), .val (.long qq), .second, .val (.long r1), .second, .val (.int (1 : Int32)), .val (.long f1), .second, .val (.int ge1), .val (.int (own_res (0 : Int64) f1 bud)), .val (.long f2), .second, .unset, .unset, .unset, .unset, .unset, .unset] [(.long (qq - r1)), (.long f2)]))
        refine own_via (fun t k => XS.lcmp X10.here hx rfl (hb hby at_144) rfl k) ?_
        show OwnEnds p.tables e below _ (T10.setTop (mkF m 145 #[.val (.long q0), .second, .val (.long q1), .second, .val (.long q2), .second, .val (.long q3), .second, .val (.int p4), .val (.long bud), .second, .val (.ref b2), .val (.long qq), .second, .val (.long r1), .second, .val (.int (1 : Int32)), .val (.long f1), .second, .val (.int ge1), .val (.int (own_res (0 : Int64) f1 bud)), .val (.long f2), .second, .unset, .unset, .unset, .unset, .unset, .unset] [(.int (lcmpW f2 (qq - r1)))]))
        have J153_11 : ∀ ge2 : Int32, ge2 = (if (qq - r1) < f2 then (0 : Int32) else (1 : Int32)) → OwnEnds p.tables e below (OwnQ s 16 128 (Q0 Z q0 q1 q2 q3 p4 h0 n0)) (T10.setTop (mkF m 153 #[.val (.long q0), .second, .val (.long q1), .second, .val (.long q2), .second, .val (.long q3), .second, .val (.int p4), .val (.long bud), .second, .val (.ref b2), .val (.long qq), .second, .val (.long r1), .second, .val (.int (1 : Int32)), .val (.long f1), .second, .val (.int ge1), .val (.int (own_res (0 : Int64) f1 bud)), .val (.long f2), .second, .unset, .unset, .unset, .unset, .unset, .unset] [(.int ge2)])) := by
          intro ge2 h_ge2
          refine own_via (fun t k => XS.istore X10.here hx rfl (hb hby at_153) rfl (l' := #[.val (.long q0), .second, .val (.long q1), .second, .val (.long q2), .second, .val (.long q3), .second, .val (.int p4), .val (.long bud), .second, .val (.ref b2), .val (.long qq), .second, .val (.long r1), .second, .val (.int (1 : Int32)), .val (.long f1), .second, .val (.int ge1), .val (.int (own_res (0 : Int64) f1 bud)), .val (.long f2), .second, .val (.int ge2), .unset, .unset, .unset, .unset, .unset]) rfl k) ?_
          show OwnEnds p.tables e below _ (T10.setTop (mkF m 155 #[.val (.long q0), .second, .val (.long q1), .second, .val (.long q2), .second, .val (.long q3), .second, .val (.int p4), .val (.long bud), .second, .val (.ref b2), .val (.long qq), .second, .val (.long r1), .second, .val (.int (1 : Int32)), .val (.long f1), .second, .val (.int ge1), .val (.int (own_res (0 : Int64) f1 bud)), .val (.long f2), .second, .val (.int ge2), .unset, .unset, .unset, .unset, .unset] []))
          refine own_via (fun t k => XS.aload X10.here hx rfl (hb hby at_155) rfl rfl k) ?_
          show OwnEnds p.tables e below _ (T10.setTop (mkF m 157 #[.val (.long q0), .second, .val (.long q1), .second, .val (.long q2), .second, .val (.long q3), .second, .val (.int p4), .val (.long bud), .second, .val (.ref b2), .val (.long qq), .second, .val (.long r1), .second, .val (.int (1 : Int32)), .val (.long f1), .second, .val (.int ge1), .val (.int (own_res (0 : Int64) f1 bud)), .val (.long f2), .second, .val (.int ge2), .unset, .unset, .unset, .unset, .unset] [(.ref b2)]))
          refine own_via (fun t k => XS.lload X10.here hx rfl (hb hby at_157) rfl k) ?_
          show OwnEnds p.tables e below _ (T10.setTop (mkF m 159 #[.val (.long q0), .second, .val (.long q1), .second, .val (.long q2), .second, .val (.long q3), .second, .val (.int p4), .val (.long bud), .second, .val (.ref b2), .val (.long qq), .second, .val (.long r1), .second, .val (.int (1 : Int32)), .val (.long f1), .second, .val (.int ge1), .val (.int (own_res (0 : Int64) f1 bud)), .val (.long f2), .second, .val (.int ge2), .unset, .unset, .unset, .unset, .unset] [(.long f2), (.ref b2)]))
          obtain ⟨cq12, kq12, q12a, q12b, q12c⟩ := isOf hZ e10 E_b2
          obtain ⟨_, _, ⟨T12, L12, k12, n12⟩, -, X12, ⟨Lc12, hQ12, l12, y12, z12⟩, st12⟩ := X10.virtualBack hx (y := (⟨"com/example/linkstage/linkstage/core/DeclarationCache", "reserve", "(J)Z"⟩ : MethodName)) (z := (⟨"com/example/linkstage/linkstage/core/DeclarationCache", "reserve", "(J)Z"⟩ : MethodName)) hown (mvT hZ (hw _ (List.mem_of_getElem? (i := 37) rfl))) (mvT hZ (hw _ (List.mem_of_getElem? (i := 38) rfl))) (notFace_of_selects (args := #[]) (mvT hZ (hw _ (List.mem_of_getElem? (i := 40) rfl)))) (mvT hZ (hw _ (List.mem_of_getElem? (i := 40) rfl))) (mvT hZ (hw _ (List.mem_of_getElem? (i := 39) rfl))) (by decide) (backOf (W := 0) (rm6 l Z aw hw [] b2 f2 bud r1 h6 n0 Zs_6 E_b2 F_budget_b2 F_reserved_b2 g_b2) hZ (hw _ (List.mem_of_getElem? (i := 41) rfl)) (hw _ (List.mem_of_getElem? (i := 3) rfl)) (by decide) (by decide)) q12a q12c (g := (mkF m 159 #[.val (.long q0), .second, .val (.long q1), .second, .val (.long q2), .second, .val (.long q3), .second, .val (.int p4), .val (.long bud), .second, .val (.ref b2), .val (.long qq), .second, .val (.long r1), .second, .val (.int (1 : Int32)), .val (.long f1), .second, .val (.int ge1), .val (.int (own_res (0 : Int64) f1 bud)), .val (.long f2), .second, .val (.int ge2), .unset, .unset, .unset, .unset, .unset] [(.long f2), (.ref b2)])) rfl (by rw [hml]; rfl) (Steps.refl _) (argsL := [(.long f2)]) (rest := []) (lenOf pd_3 rfl) rfl (by show 2 * 0 + _ ≤ _; exact Nat.le_of_eq rfl) (hb hby at_159) (fun _ _ => ⟨rfl, e10, (by decide : 3 + 0 ≤ _), (by decide : 26 + 0 ≤ _)⟩)
          dsimp only [Pt.U, Pt.locs, Pt.cells, Pt.slots] at X12 l12 y12 z12 st12 hQ12
          subst l12 y12 z12
          obtain ⟨h12, e12⟩ : ∃ z, T12.heap = z := ⟨_, rfl⟩
          rw [e12] at hQ12
          obtain ⟨rfl, Nq12, K12, Y12_0, Y12_1, Y12_2⟩ := hQ12
          have N12 := Fr.app N10 Nq12
          replace E_b2 := E_b2.keep K12
          have F_budget_b2 : Fld Z h12 b2 "com/example/linkstage/linkstage/core/DeclarationCache" "budget" "J" (.long bud) := Y12_1
          have F_reserved_b2 : Fld Z h12 b2 "com/example/linkstage/linkstage/core/DeclarationCache" "reserved" "J" (.long (own_nr r1 f2 bud)) := Y12_2
          have Zs_12 : n0 ≤ _ := Nat.le_trans Zs_6 K12.1
          refine own_of st12 ?_
          show OwnEnds p.tables e below _ (T12.setTop (mkF m 162 #[.val (.long q0), .second, .val (.long q1), .second, .val (.long q2), .second, .val (.long q3), .second, .val (.int p4), .val (.long bud), .second, .val (.ref b2), .val (.long qq), .second, .val (.long r1), .second, .val (.int (1 : Int32)), .val (.long f1), .second, .val (.int ge1), .val (.int (own_res (0 : Int64) f1 bud)), .val (.long f2), .second, .val (.int ge2), .unset, .unset, .unset, .unset, .unset] [(.int (own_res r1 f2 bud))]))
          refine own_via (fun t k => XS.istore X12.here hx rfl (hb hby at_162) rfl (l' := #[.val (.long q0), .second, .val (.long q1), .second, .val (.long q2), .second, .val (.long q3), .second, .val (.int p4), .val (.long bud), .second, .val (.ref b2), .val (.long qq), .second, .val (.long r1), .second, .val (.int (1 : Int32)), .val (.long f1), .second, .val (.int ge1), .val (.int (own_res (0 : Int64) f1 bud)), .val (.long f2), .second, .val (.int ge2), .val (.int (own_res r1 f2 bud)), .unset, .unset, .unset, .unset]) rfl k) ?_
          show OwnEnds p.tables e below _ (T12.setTop (mkF m 164 #[.val (.long q0), .second, .val (.long q1), .second, .val (.long q2), .second, .val (.long q3), .second, .val (.int p4), .val (.long bud), .second, .val (.ref b2), .val (.long qq), .second, .val (.long r1), .second, .val (.int (1 : Int32)), .val (.long f1), .second, .val (.int ge1), .val (.int (own_res (0 : Int64) f1 bud)), .val (.long f2), .second, .val (.int ge2), .val (.int (own_res r1 f2 bud)), .unset, .unset, .unset, .unset] []))
          refine own_via (fun t k => XS.iload X12.here hx rfl (hb hby at_164) rfl k) ?_
          show OwnEnds p.tables e below _ (T12.setTop (mkF m 166 #[.val (.long q0), .second, .val (.long q1), .second, .val (.long q2), .second, .val (.long q3), .second, .val (.int p4), .val (.long bud), .second, .val (.ref b2), .val (.long qq), .second, .val (.long r1), .second, .val (.int (1 : Int32)), .val (.long f1), .second, .val (.int ge1), .val (.int (own_res (0 : Int64) f1 bud)), .val (.long f2), .second, .val (.int ge2), .val (.int (own_res r1 f2 bud)), .unset, .unset, .unset, .unset] [(.int (1 : Int32))]))
          have hc166_13 : ¬ ((1 : Int32) = (0 : Int32)) := by decide
          refine own_via (fun t k => XS.ifNo X12.here hx rfl (hb hby at_166) rfl ((if0 _ _).trans (feq hc166_13).1) k) ?_
          show OwnEnds p.tables e below _ (T12.setTop (mkF m 169 #[.val (.long q0), .second, .val (.long q1), .second, .val (.long q2), .second, .val (.long q3), .second, .val (.int p4), .val (.long bud), .second, .val (.ref b2), .val (.long qq), .second, .val (.long r1), .second, .val (.int (1 : Int32)), .val (.long f1), .second, .val (.int ge1), .val (.int (own_res (0 : Int64) f1 bud)), .val (.long f2), .second, .val (.int ge2), .val (.int (own_res r1 f2 bud)), .unset, .unset, .unset, .unset] []))
          refine own_via (fun t k => XS.iload X12.here hx rfl (hb hby at_169) rfl k) ?_
          show OwnEnds p.tables e below _ (T12.setTop (mkF m 171 #[.val (.long q0), .second, .val (.long q1), .second, .val (.long q2), .second, .val (.long q3), .second, .val (.int p4), .val (.long bud), .second, .val (.ref b2), .val (.long qq), .second, .val (.long r1), .second, .val (.int (1 : Int32)), .val (.long f1), .second, .val (.int ge1), .val (.int (own_res (0 : Int64) f1 bud)), .val (.long f2), .second, .val (.int ge2), .val (.int (own_res r1 f2 bud)), .unset, .unset, .unset, .unset] [(.int (own_res r1 f2 bud))]))
          refine own_via (fun t k => XS.iload X12.here hx rfl (hb hby at_171) rfl k) ?_
          show OwnEnds p.tables e below _ (T12.setTop (mkF m 173 #[.val (.long q0), .second, .val (.long q1), .second, .val (.long q2), .second, .val (.long q3), .second, .val (.int p4), .val (.long bud), .second, .val (.ref b2), .val (.long qq), .second, .val (.long r1), .second, .val (.int (1 : Int32)), .val (.long f1), .second, .val (.int ge1), .val (.int (own_res (0 : Int64) f1 bud)), .val (.long f2), .second, .val (.int ge2), .val (.int (own_res r1 f2 bud)), .unset, .unset, .unset, .unset] [(.int ge2), (.int (own_res r1 f2 bud))]))
          have hc173_14 : (own_res r1 f2 bud) = ge2 := own_ge hin h_qq hf2 h_ge2
          refine own_via (fun t k => XS.icmpNo X12.here hx rfl (hb hby at_173) rfl (teq hc173_14).2 k) ?_
          show OwnEnds p.tables e below _ (T12.setTop (mkF m 176 #[.val (.long q0), .second, .val (.long q1), .second, .val (.long q2), .second, .val (.long q3), .second, .val (.int p4), .val (.long bud), .second, .val (.ref b2), .val (.long qq), .second, .val (.long r1), .second, .val (.int (1 : Int32)), .val (.long f1), .second, .val (.int ge1), .val (.int (own_res (0 : Int64) f1 bud)), .val (.long f2), .second, .val (.int ge2), .val (.int (own_res r1 f2 bud)), .unset, .unset, .unset, .unset] []))
          refine own_via (fun t k => XS.iconst X12.here hx rfl (hb hby at_176) k) ?_
          show OwnEnds p.tables e below _ (T12.setTop (mkF m 177 #[.val (.long q0), .second, .val (.long q1), .second, .val (.long q2), .second, .val (.long q3), .second, .val (.int p4), .val (.long bud), .second, .val (.ref b2), .val (.long qq), .second, .val (.long r1), .second, .val (.int (1 : Int32)), .val (.long f1), .second, .val (.int ge1), .val (.int (own_res (0 : Int64) f1 bud)), .val (.long f2), .second, .val (.int ge2), .val (.int (own_res r1 f2 bud)), .unset, .unset, .unset, .unset] [(.int (1 : Int32))]))
          refine own_via (fun t k => XS.goto X12.here hx rfl (pc0 := 177) (pc' := 181) rfl (hb hby at_177) (by decide) (by decide) k) ?_
          show OwnEnds p.tables e below _ (T12.setTop (mkF m 181 #[.val (.long q0), .second, .val (.long q1), .second, .val (.long q2), .second, .val (.long q3), .second, .val (.int p4), .val (.long bud), .second, .val (.ref b2), .val (.long qq), .second, .val (.long r1), .second, .val (.int (1 : Int32)), .val (.long f1), .second, .val (.int ge1), .val (.int (own_res (0 : Int64) f1 bud)), .val (.long f2), .second, .val (.int ge2), .val (.int (own_res r1 f2 bud)), .unset, .unset, .unset, .unset] [(.int (1 : Int32))]))
          refine own_via (fun t k => XS.istore X12.here hx rfl (hb hby at_181) rfl (l' := #[.val (.long q0), .second, .val (.long q1), .second, .val (.long q2), .second, .val (.long q3), .second, .val (.int p4), .val (.long bud), .second, .val (.ref b2), .val (.long qq), .second, .val (.long r1), .second, .val (.int (1 : Int32)), .val (.long f1), .second, .val (.int ge1), .val (.int (own_res (0 : Int64) f1 bud)), .val (.long f2), .second, .val (.int ge2), .val (.int (own_res r1 f2 bud)), .unset, .unset, .unset, .unset]) rfl k) ?_
          show OwnEnds p.tables e below _ (T12.setTop (mkF m 183 #[.val (.long q0), .second, .val (.long q1), .second, .val (.long q2), .second, .val (.long q3), .second, .val (.int p4), .val (.long bud), .second, .val (.ref b2), .val (.long qq), .second, .val (.long r1), .second, .val (.int (1 : Int32)), .val (.long f1), .second, .val (.int ge1), .val (.int (own_res (0 : Int64) f1 bud)), .val (.long f2), .second, .val (.int ge2), .val (.int (own_res r1 f2 bud)), .unset, .unset, .unset, .unset] []))
          refine own_via (fun t k => XS.iload X12.here hx rfl (hb hby at_183) rfl k) ?_
          show OwnEnds p.tables e below _ (T12.setTop (mkF m 185 #[.val (.long q0), .second, .val (.long q1), .second, .val (.long q2), .second, .val (.long q3), .second, .val (.int p4), .val (.long bud), .second, .val (.ref b2), .val (.long qq), .second, .val (.long r1), .second, .val (.int (1 : Int32)), .val (.long f1), .second, .val (.int ge1), .val (.int (own_res (0 : Int64) f1 bud)), .val (.long f2), .second, .val (.int ge2), .val (.int (own_res r1 f2 bud)), .unset, .unset, .unset, .unset] [(.int ge2)]))
          have J195_15 : ∀ r2 : Int64, r2 = (if ge2 = (0 : Int32) then r1 else (r1 + f2)) → OwnEnds p.tables e below (OwnQ s 16 128 (Q0 Z q0 q1 q2 q3 p4 h0 n0)) (T12.setTop (mkF m 195 #[.val (.long q0), .second, .val (.long q1), .second, .val (.long q2), .second, .val (.long q3), .second, .val (.int p4), .val (.long bud), .second, .val (.ref b2), .val (.long qq), .second, .val (.long r2), .second, .val (.int (1 : Int32)), .val (.long f1), .second, .val (.int ge1), .val (.int (own_res (0 : Int64) f1 bud)), .val (.long f2), .second, .val (.int ge2), .val (.int (own_res r1 f2 bud)), .unset, .unset, .unset, .unset] [])) := by
            intro r2 h_r2
            have hin2 := own_inv hin hf2 h_ge2 h_r2
            rw [own_nrEq hin h_qq hf2 h_ge2 h_r2] at F_reserved_b2
            clear hin
            have hin := hin2
            refine own_via (fun t k => XS.lload X12.here hx rfl (hb hby at_195) rfl k) ?_
            show OwnEnds p.tables e below _ (T12.setTop (mkF m 197 #[.val (.long q0), .second, .val (.long q1), .second, .val (.long q2), .second, .val (.long q3), .second, .val (.int p4), .val (.long bud), .second, .val (.ref b2), .val (.long qq), .second, .val (.long r2), .second, .val (.int (1 : Int32)), .val (.long f1), .second, .val (.int ge1), .val (.int (own_res (0 : Int64) f1 bud)), .val (.long f2), .second, .val (.int ge2), .val (.int (own_res r1 f2 bud)), .unset, .unset, .unset, .unset] [(.long q3)]))
            refine own_via (fun t k => XS.iload X12.here hx rfl (hb hby at_197) rfl k) ?_
            show OwnEnds p.tables e below _ (T12.setTop (mkF m 199 #[.val (.long q0), .second, .val (.long q1), .second, .val (.long q2), .second, .val (.long q3), .second, .val (.int p4), .val (.long bud), .second, .val (.ref b2), .val (.long qq), .second, .val (.long r2), .second, .val (.int (1 : Int32)), .val (.long f1), .second, .val (.int ge1), .val (.int (own_res (0 : Int64) f1 bud)), .val (.long f2), .second, .val (.int ge2), .val (.int (own_res r1 f2 bud)), .unset, .unset, .unset, .unset] [(.int p4), (.long q3)]))
            refine own_via (fun t k => XS.iconst X12.here hx rfl (hb hby at_199) k) ?_
            show OwnEnds p.tables e below _ (T12.setTop (mkF m 200 #[.val (.long q0), .second, .val (.long q1), .second, .val (.long q2), .second, .val (.long q3), .second, .val (.int p4), .val (.long bud), .second, .val (.ref b2), .val (.long qq), .second, .val (.long r2), .second, .val (.int (1 : Int32)), .val (.long f1), .second, .val (.int ge1), .val (.int (own_res (0 : Int64) f1 bud)), .val (.long f2), .second, .val (.int ge2), .val (.int (own_res r1 f2 bud)), .unset, .unset, .unset, .unset] [(.int (4 : Int32)), (.int p4), (.long q3)]))
            refine own_via (fun t k => XS.ishr X12.here hx rfl (hb hby at_200) rfl k) ?_
            show OwnEnds p.tables e below _ (T12.setTop (mkF m 201 #[.val (.long q0), .second, .val (.long q1), .second, .val (.long q2), .second, .val (.long q3), .second, .val (.int p4), .val (.long bud), .second, .val (.ref b2), .val (.long qq), .second, .val (.long r2), .second, .val (.int (1 : Int32)), .val (.long f1), .second, .val (.int ge1), .val (.int (own_res (0 : Int64) f1 bud)), .val (.long f2), .second, .val (.int ge2), .val (.int (own_res r1 f2 bud)), .unset, .unset, .unset, .unset] [(.int (p4 >>> ((4 : Int32) &&& 31))), (.long q3)]))
            refine own_via (fun t k => XS.lload X12.here hx rfl (hb hby at_201) rfl k) ?_
            show OwnEnds p.tables e below _ (T12.setTop (mkF m 203 #[.val (.long q0), .second, .val (.long q1), .second, .val (.long q2), .second, .val (.long q3), .second, .val (.int p4), .val (.long bud), .second, .val (.ref b2), .val (.long qq), .second, .val (.long r2), .second, .val (.int (1 : Int32)), .val (.long f1), .second, .val (.int ge1), .val (.int (own_res (0 : Int64) f1 bud)), .val (.long f2), .second, .val (.int ge2), .val (.int (own_res r1 f2 bud)), .unset, .unset, .unset, .unset] [(.long qq), (.int (p4 >>> ((4 : Int32) &&& 31))), (.long q3)]))
            refine own_via (fun t k => XS.lload X12.here hx rfl (hb hby at_203) rfl k) ?_
            show OwnEnds p.tables e below _ (T12.setTop (mkF m 205 #[.val (.long q0), .second, .val (.long q1), .second, .val (.long q2), .second, .val (.long q3), .second, .val (.int p4), .val (.long bud), .second, .val (.ref b2), .val (.long qq), .second, .val (.long r2), .second, .val (.int (1 : Int32)), .val (.long f1), .second, .val (.int ge1), .val (.int (own_res (0 : Int64) f1 bud)), .val (.long f2), .second, .val (.int ge2), .val (.int (own_res r1 f2 bud)), .unset, .unset, .unset, .unset] [(.long r2), (.long qq), (.int (p4 >>> ((4 : Int32) &&& 31))), (.long q3)]))
            refine own_via (fun t k => XS.lsub X12.here hx rfl (hb hby at_205) rfl k) ?_
            show OwnEnds p.tables e below _ (T12.setTop (mkF m 206 #[.val (.long q0), .second, .val (.long q1), .second, .val (.long q2), .second, .val (.long q3), .second, .val (.int p4), .val (.long bud), .second, .val (.ref b2), .val (.long qq), .second, .val (.long r2), .second, .val (.int (1 : Int32)), .val (.long f1), .second, .val (.int ge1), .val (.int (own_res (0 : Int64) f1 bud)), .val (.long f2), .second, .val (.int ge2), .val (.int (own_res r1 f2 bud)), .unset, .unset, .unset, .unset] [(.long (qq - r2)), (.int (p4 >>> ((4 : Int32) &&& 31))), (.long q3)]))
            obtain ⟨_, _, ⟨T16, L16, k16, n16⟩, -, X16, ⟨Lc16, hQ16, l16, y16, z16⟩, st16⟩ := Jvm.LawKit.callS X12 hx (y := (⟨"com/example/linkstage/linkstage/core/DeclarationCacheReservePinLaw", "pick", "(JIJ)J"⟩ : MethodName)) hown (mvT hZ (hw _ (List.mem_of_getElem? (i := 32) rfl))) (mvT hZ (hw _ (List.mem_of_getElem? (i := 33) rfl))) (mvT hZ (hw _ (List.mem_of_getElem? (i := 34) rfl))) (mvT hZ (hw _ (List.mem_of_getElem? (i := 35) rfl))) (by decide) (backOf (W := 0) (rm5 l Z aw hw [] q3 (p4 >>> ((4 : Int32) &&& 31)) (qq - r2) h12 n0 Zs_12 (own_room hin)) hZ (hw _ (List.mem_of_getElem? (i := 35) rfl)) (hw _ (List.mem_of_getElem? (i := 34) rfl)) (by decide) (by decide)) (g := (mkF m 206 #[.val (.long q0), .second, .val (.long q1), .second, .val (.long q2), .second, .val (.long q3), .second, .val (.int p4), .val (.long bud), .second, .val (.ref b2), .val (.long qq), .second, .val (.long r2), .second, .val (.int (1 : Int32)), .val (.long f1), .second, .val (.int ge1), .val (.int (own_res (0 : Int64) f1 bud)), .val (.long f2), .second, .val (.int ge2), .val (.int (own_res r1 f2 bud)), .unset, .unset, .unset, .unset] [(.long (qq - r2)), (.int (p4 >>> ((4 : Int32) &&& 31))), (.long q3)])) rfl (by rw [hml]; rfl) (argsL := [(.long q3), (.int (p4 >>> ((4 : Int32) &&& 31))), (.long (qq - r2))]) (rest := []) (lenOf pd_2 rfl) rfl (by show 2 * 0 + _ ≤ _; exact Nat.le_of_eq rfl) (hb hby at_206) (fun _ _ => ⟨rfl, e12, (by decide : 3 + 0 ≤ _), (by decide : 26 + 0 ≤ _)⟩)
            dsimp only [Pt.U, Pt.locs, Pt.cells, Pt.slots] at X16 l16 y16 z16 st16 hQ16
            subst l16 y16 z16
            obtain ⟨rfl, Nq16, e16⟩ := hQ16
            have N16 := Fr.app N12 Nq16
            replace e16 : T16.heap = h12 := e16
            refine own_via st16 ?_
            show OwnEnds p.tables e below _ (T16.setTop (mkF m 209 #[.val (.long q0), .second, .val (.long q1), .second, .val (.long q2), .second, .val (.long q3), .second, .val (.int p4), .val (.long bud), .second, .val (.ref b2), .val (.long qq), .second, .val (.long r2), .second, .val (.int (1 : Int32)), .val (.long f1), .second, .val (.int ge1), .val (.int (own_res (0 : Int64) f1 bud)), .val (.long f2), .second, .val (.int ge2), .val (.int (own_res r1 f2 bud)), .unset, .unset, .unset, .unset] [(.long (own_pick q3 (p4 >>> ((4 : Int32) &&& 31)) (qq - r2)))]))
            obtain ⟨f3, h_f3⟩ : ∃ z, z = (own_pick q3 (p4 >>> ((4 : Int32) &&& 31)) (qq - r2)) := ⟨_, rfl⟩
            rw [← h_f3]
            have hf3 := own_pk hin h_f3
            refine own_via (fun t k => XS.lstore X16.here hx rfl (hb hby at_209) rfl (l' := #[.val (.long q0), .second, .val (.long q1), .second, .val (.long q2), .second, .val (.long q3), .second, .val (.int p4), .val (.long bud), .second, .val (.ref b2), .val (.long qq), .second, .val (.long r2), .second, .val (.int (1 : Int32)), .val (.long f1), .second, .val (.int ge1), .val (.int (own_res (0 : Int64) f1 bud)), .val (.long f2), .second, .val (.int ge2), .val (.int (own_res r1 f2 bud)), .val (.long f3), .second, .unset, .unset]) rfl k) ?_
            show OwnEnds p.tables e below _ (T16.setTop (mkF m 211 #[.val (.long q0), .second, .val (.long q1), .second, .val (.long q2), .second, .val (.long q3), .second, .val (.int p4), .val (.long bud), .second, .val (.ref b2), .val (.long qq), .second, .val (.long r2), .second, .val (.int (1 : Int32)), .val (.long f1), .second, .val (.int ge1), .val (.int (own_res (0 : Int64) f1 bud)), .val (.long f2), .second, .val (.int ge2), .val (.int (own_res r1 f2 bud)), .val (.long f3), .second, .unset, .unset] []))
            refine own_via (fun t k => XS.lload X16.here hx rfl (hb hby at_211) rfl k) ?_
            show OwnEnds p.tables e below _ (T16.setTop (mkF m 213 #[.val (.long q0), .second, .val (.long q1), .second, .val (.long q2), .second, .val (.long q3), .second, .val (.int p4), .val (.long bud), .second, .val (.ref b2), .val (.long qq), .second, .val (.long r2), .second, .val (.int (1 : Int32)), .val (.long f1), .second, .val (.int ge1), .val (.int (own_res (0 : Int64) f1 bud)), .val (.long f2), .second, .val (.int ge2), .val (.int (own_res r1 f2 bud)), .val (.long f3), .second, .unset, .unset] [(.long f3)]))
            refine own_via (fun t k => XS.lload X16.here hx rfl (hb hby at_213) rfl k) ?_
            show OwnEnds p.tables e below _ (T16.setTop (mkF m 215 #[.val (.long q0), .second, .val (.long q1), .second, .val (.long q2), .second, .val (.long q3), .second, .val (.int p4), .val (.long bud), .second, .val (.ref b2), .val (.long qq), .second, .val (.long r2), .second, .val (.int (1 : Int32)), .val (.long f1), .second, .val (.int ge1), .val (.int (own_res (0 : Int64) f1 bud)), .val (.long f2), .second, .val (.int ge2), .val (.int (own_res r1 f2 bud)), .val (.long f3), .second, .unset, .unset] [(.long qq), (.long f3)]))
            refine own_via (fun t k => XS.lload X16.here hx rfl (hb hby at_215) rfl k) ?_
            show OwnEnds p.tables e below _ (T16.setTop (mkF m 217 #[.val (.long q0), .second, .val (.long q1), .second, .val (.long q2), .second, .val (.long q3), .second, .val (.int p4), .val (.long bud), .second, .val (.ref b2), .val (.long qq), .second, .val (.long r2), .second, .val (.int (1 : Int32)), .val (.long f1), .second, .val (.int ge1), .val (.int (own_res (0 : Int64) f1 bud)), .val (.long f2), .second, .val (.int ge2), .val (.int (own_res r1 f2 bud)), .val (.long f3), .second, .unset, .unset] [(.long r2), (.long qq), (.long f3)]))
            refine own_via (fun t k => XS.lsub X16.here hx rfl (hb hby at_217) rfl k) ?_
            show OwnEnds p.tables e below _ (T16.setTop (mkF m 218 #[.val (.long q0), .second, .val (.long q1), .second, .val (.long q2), .second, .val (.long q3), .second, .val (.int p4), .val (.long bud), .second, .val (.ref b2), .val (.long qq), .second, .val (.long r2), .second, .val (.int (1 : Int32)), .val (.long f1), .second, .val (.int ge1), .val (.int (own_res (0 : Int64) f1 bud)), .val (.long f2), .second, .val (.int ge2), .val (.int (own_res r1 f2 bud)), .val (.long f3), .second, .unset, .unset] [(.long (qq - r2)), (.long f3)]))
            refine own_via (fun t k => XS.lcmp X16.here hx rfl (hb hby at_218) rfl k) ?_
            show OwnEnds p.tables e below _ (T16.setTop (mkF m 219 #[.val (.long q0), .second, .val (.long q1), .second, .val (.long q2), .second, .val (.long q3), .second, .val (.int p4), .val (.long bud), .second, .val (.ref b2), .val (.long qq), .second, .val (.long r2), .second, .val (.int (1 : Int32)), .val (.long f1), .second, .val (.int ge1), .val (.int (own_res (0 : Int64) f1 bud)), .val (.long f2), .second, .val (.int ge2), .val (.int (own_res r1 f2 bud)), .val (.long f3), .second, .unset, .unset] [(.int (lcmpW f3 (qq - r2)))]))
            have J227_17 : ∀ ge3 : Int32, ge3 = (if (qq - r2) < f3 then (0 : Int32) else (1 : Int32)) → OwnEnds p.tables e below (OwnQ s 16 128 (Q0 Z q0 q1 q2 q3 p4 h0 n0)) (T16.setTop (mkF m 227 #[.val (.long q0), .second, .val (.long q1), .second, .val (.long q2), .second, .val (.long q3), .second, .val (.int p4), .val (.long bud), .second, .val (.ref b2), .val (.long qq), .second, .val (.long r2), .second, .val (.int (1 : Int32)), .val (.long f1), .second, .val (.int ge1), .val (.int (own_res (0 : Int64) f1 bud)), .val (.long f2), .second, .val (.int ge2), .val (.int (own_res r1 f2 bud)), .val (.long f3), .second, .unset, .unset] [(.int ge3)])) := by
              intro ge3 h_ge3
              refine own_via (fun t k => XS.istore X16.here hx rfl (hb hby at_227) rfl (l' := #[.val (.long q0), .second, .val (.long q1), .second, .val (.long q2), .second, .val (.long q3), .second, .val (.int p4), .val (.long bud), .second, .val (.ref b2), .val (.long qq), .second, .val (.long r2), .second, .val (.int (1 : Int32)), .val (.long f1), .second, .val (.int ge1), .val (.int (own_res (0 : Int64) f1 bud)), .val (.long f2), .second, .val (.int ge2), .val (.int (own_res r1 f2 bud)), .val (.long f3), .second, .val (.int ge3), .unset]) rfl k) ?_
              show OwnEnds p.tables e below _ (T16.setTop (mkF m 229 #[.val (.long q0), .second, .val (.long q1), .second, .val (.long q2), .second, .val (.long q3), .second, .val (.int p4), .val (.long bud), .second, .val (.ref b2), .val (.long qq), .second, .val (.long r2), .second, .val (.int (1 : Int32)), .val (.long f1), .second, .val (.int ge1), .val (.int (own_res (0 : Int64) f1 bud)), .val (.long f2), .second, .val (.int ge2), .val (.int (own_res r1 f2 bud)), .val (.long f3), .second, .val (.int ge3), .unset] []))
              refine own_via (fun t k => XS.aload X16.here hx rfl (hb hby at_229) rfl rfl k) ?_
              show OwnEnds p.tables e below _ (T16.setTop (mkF m 231 #[.val (.long q0), .second, .val (.long q1), .second, .val (.long q2), .second, .val (.long q3), .second, .val (.int p4), .val (.long bud), .second, .val (.ref b2), .val (.long qq), .second, .val (.long r2), .second, .val (.int (1 : Int32)), .val (.long f1), .second, .val (.int ge1), .val (.int (own_res (0 : Int64) f1 bud)), .val (.long f2), .second, .val (.int ge2), .val (.int (own_res r1 f2 bud)), .val (.long f3), .second, .val (.int ge3), .unset] [(.ref b2)]))
              refine own_via (fun t k => XS.lload X16.here hx rfl (hb hby at_231) rfl k) ?_
              show OwnEnds p.tables e below _ (T16.setTop (mkF m 233 #[.val (.long q0), .second, .val (.long q1), .second, .val (.long q2), .second, .val (.long q3), .second, .val (.int p4), .val (.long bud), .second, .val (.ref b2), .val (.long qq), .second, .val (.long r2), .second, .val (.int (1 : Int32)), .val (.long f1), .second, .val (.int ge1), .val (.int (own_res (0 : Int64) f1 bud)), .val (.long f2), .second, .val (.int ge2), .val (.int (own_res r1 f2 bud)), .val (.long f3), .second, .val (.int ge3), .unset] [(.long f3), (.ref b2)]))
              obtain ⟨cq18, kq18, q18a, q18b, q18c⟩ := isOf hZ e16 E_b2
              obtain ⟨_, _, ⟨T18, L18, k18, n18⟩, -, X18, ⟨Lc18, hQ18, l18, y18, z18⟩, st18⟩ := X16.virtualBack hx (y := (⟨"com/example/linkstage/linkstage/core/DeclarationCache", "reserve", "(J)Z"⟩ : MethodName)) (z := (⟨"com/example/linkstage/linkstage/core/DeclarationCache", "reserve", "(J)Z"⟩ : MethodName)) hown (mvT hZ (hw _ (List.mem_of_getElem? (i := 37) rfl))) (mvT hZ (hw _ (List.mem_of_getElem? (i := 38) rfl))) (notFace_of_selects (args := #[]) (mvT hZ (hw _ (List.mem_of_getElem? (i := 40) rfl)))) (mvT hZ (hw _ (List.mem_of_getElem? (i := 40) rfl))) (mvT hZ (hw _ (List.mem_of_getElem? (i := 39) rfl))) (by decide) (backOf (W := 0) (rm6 l Z aw hw [] b2 f3 bud r2 h12 n0 Zs_12 E_b2 F_budget_b2 F_reserved_b2 g_b2) hZ (hw _ (List.mem_of_getElem? (i := 41) rfl)) (hw _ (List.mem_of_getElem? (i := 3) rfl)) (by decide) (by decide)) q18a q18c (g := (mkF m 233 #[.val (.long q0), .second, .val (.long q1), .second, .val (.long q2), .second, .val (.long q3), .second, .val (.int p4), .val (.long bud), .second, .val (.ref b2), .val (.long qq), .second, .val (.long r2), .second, .val (.int (1 : Int32)), .val (.long f1), .second, .val (.int ge1), .val (.int (own_res (0 : Int64) f1 bud)), .val (.long f2), .second, .val (.int ge2), .val (.int (own_res r1 f2 bud)), .val (.long f3), .second, .val (.int ge3), .unset] [(.long f3), (.ref b2)])) rfl (by rw [hml]; rfl) (Steps.refl _) (argsL := [(.long f3)]) (rest := []) (lenOf pd_3 rfl) rfl (by show 2 * 0 + _ ≤ _; exact Nat.le_of_eq rfl) (hb hby at_233) (fun _ _ => ⟨rfl, e16, (by decide : 3 + 0 ≤ _), (by decide : 26 + 0 ≤ _)⟩)
              dsimp only [Pt.U, Pt.locs, Pt.cells, Pt.slots] at X18 l18 y18 z18 st18 hQ18
              subst l18 y18 z18
              obtain ⟨h18, e18⟩ : ∃ z, T18.heap = z := ⟨_, rfl⟩
              rw [e18] at hQ18
              obtain ⟨rfl, Nq18, K18, Y18_0, Y18_1, Y18_2⟩ := hQ18
              have N18 := Fr.app N16 Nq18
              replace E_b2 := E_b2.keep K18
              have F_budget_b2 : Fld Z h18 b2 "com/example/linkstage/linkstage/core/DeclarationCache" "budget" "J" (.long bud) := Y18_1
              have F_reserved_b2 : Fld Z h18 b2 "com/example/linkstage/linkstage/core/DeclarationCache" "reserved" "J" (.long (own_nr r2 f3 bud)) := Y18_2
              have Zs_18 : n0 ≤ _ := Nat.le_trans Zs_12 K18.1
              refine own_of st18 ?_
              show OwnEnds p.tables e below _ (T18.setTop (mkF m 236 #[.val (.long q0), .second, .val (.long q1), .second, .val (.long q2), .second, .val (.long q3), .second, .val (.int p4), .val (.long bud), .second, .val (.ref b2), .val (.long qq), .second, .val (.long r2), .second, .val (.int (1 : Int32)), .val (.long f1), .second, .val (.int ge1), .val (.int (own_res (0 : Int64) f1 bud)), .val (.long f2), .second, .val (.int ge2), .val (.int (own_res r1 f2 bud)), .val (.long f3), .second, .val (.int ge3), .unset] [(.int (own_res r2 f3 bud))]))
              refine own_via (fun t k => XS.istore X18.here hx rfl (hb hby at_236) rfl (l' := #[.val (.long q0), .second, .val (.long q1), .second, .val (.long q2), .second, .val (.long q3), .second, .val (.int p4), .val (.long bud), .second, .val (.ref b2), .val (.long qq), .second, .val (.long r2), .second, .val (.int (1 : Int32)), .val (.long f1), .second, .val (.int ge1), .val (.int (own_res (0 : Int64) f1 bud)), .val (.long f2), .second, .val (.int ge2), .val (.int (own_res r1 f2 bud)), .val (.long f3), .second, .val (.int ge3), .val (.int (own_res r2 f3 bud))]) rfl k) ?_
              show OwnEnds p.tables e below _ (T18.setTop (mkF m 238 #[.val (.long q0), .second, .val (.long q1), .second, .val (.long q2), .second, .val (.long q3), .second, .val (.int p4), .val (.long bud), .second, .val (.ref b2), .val (.long qq), .second, .val (.long r2), .second, .val (.int (1 : Int32)), .val (.long f1), .second, .val (.int ge1), .val (.int (own_res (0 : Int64) f1 bud)), .val (.long f2), .second, .val (.int ge2), .val (.int (own_res r1 f2 bud)), .val (.long f3), .second, .val (.int ge3), .val (.int (own_res r2 f3 bud))] []))
              refine own_via (fun t k => XS.iload X18.here hx rfl (hb hby at_238) rfl k) ?_
              show OwnEnds p.tables e below _ (T18.setTop (mkF m 240 #[.val (.long q0), .second, .val (.long q1), .second, .val (.long q2), .second, .val (.long q3), .second, .val (.int p4), .val (.long bud), .second, .val (.ref b2), .val (.long qq), .second, .val (.long r2), .second, .val (.int (1 : Int32)), .val (.long f1), .second, .val (.int ge1), .val (.int (own_res (0 : Int64) f1 bud)), .val (.long f2), .second, .val (.int ge2), .val (.int (own_res r1 f2 bud)), .val (.long f3), .second, .val (.int ge3), .val (.int (own_res r2 f3 bud))] [(.int (1 : Int32))]))
              have hc240_19 : ¬ ((1 : Int32) = (0 : Int32)) := by decide
              refine own_via (fun t k => XS.ifNo X18.here hx rfl (hb hby at_240) rfl ((if0 _ _).trans (feq hc240_19).1) k) ?_
              show OwnEnds p.tables e below _ (T18.setTop (mkF m 243 #[.val (.long q0), .second, .val (.long q1), .second, .val (.long q2), .second, .val (.long q3), .second, .val (.int p4), .val (.long bud), .second, .val (.ref b2), .val (.long qq), .second, .val (.long r2), .second, .val (.int (1 : Int32)), .val (.long f1), .second, .val (.int ge1), .val (.int (own_res (0 : Int64) f1 bud)), .val (.long f2), .second, .val (.int ge2), .val (.int (own_res r1 f2 bud)), .val (.long f3), .second, .val (.int ge3), .val (.int (own_res r2 f3 bud))] []))
              refine own_via (fun t k => XS.iload X18.here hx rfl (hb hby at_243) rfl k) ?_
              show OwnEnds p.tables e below _ (T18.setTop (mkF m 245 #[.val (.long q0), .second, .val (.long q1), .second, .val (.long q2), .second, .val (.long q3), .second, .val (.int p4), .val (.long bud), .second, .val (.ref b2), .val (.long qq), .second, .val (.long r2), .second, .val (.int (1 : Int32)), .val (.long f1), .second, .val (.int ge1), .val (.int (own_res (0 : Int64) f1 bud)), .val (.long f2), .second, .val (.int ge2), .val (.int (own_res r1 f2 bud)), .val (.long f3), .second, .val (.int ge3), .val (.int (own_res r2 f3 bud))] [(.int (own_res r2 f3 bud))]))
              refine own_via (fun t k => XS.iload X18.here hx rfl (hb hby at_245) rfl k) ?_
              show OwnEnds p.tables e below _ (T18.setTop (mkF m 247 #[.val (.long q0), .second, .val (.long q1), .second, .val (.long q2), .second, .val (.long q3), .second, .val (.int p4), .val (.long bud), .second, .val (.ref b2), .val (.long qq), .second, .val (.long r2), .second, .val (.int (1 : Int32)), .val (.long f1), .second, .val (.int ge1), .val (.int (own_res (0 : Int64) f1 bud)), .val (.long f2), .second, .val (.int ge2), .val (.int (own_res r1 f2 bud)), .val (.long f3), .second, .val (.int ge3), .val (.int (own_res r2 f3 bud))] [(.int ge3), (.int (own_res r2 f3 bud))]))
              have hc247_20 : (own_res r2 f3 bud) = ge3 := own_ge hin h_qq hf3 h_ge3
              refine own_via (fun t k => XS.icmpNo X18.here hx rfl (hb hby at_247) rfl (teq hc247_20).2 k) ?_
              show OwnEnds p.tables e below _ (T18.setTop (mkF m 250 #[.val (.long q0), .second, .val (.long q1), .second, .val (.long q2), .second, .val (.long q3), .second, .val (.int p4), .val (.long bud), .second, .val (.ref b2), .val (.long qq), .second, .val (.long r2), .second, .val (.int (1 : Int32)), .val (.long f1), .second, .val (.int ge1), .val (.int (own_res (0 : Int64) f1 bud)), .val (.long f2), .second, .val (.int ge2), .val (.int (own_res r1 f2 bud)), .val (.long f3), .second, .val (.int ge3), .val (.int (own_res r2 f3 bud))] []))
              refine own_via (fun t k => XS.iconst X18.here hx rfl (hb hby at_250) k) ?_
              show OwnEnds p.tables e below _ (T18.setTop (mkF m 251 #[.val (.long q0), .second, .val (.long q1), .second, .val (.long q2), .second, .val (.long q3), .second, .val (.int p4), .val (.long bud), .second, .val (.ref b2), .val (.long qq), .second, .val (.long r2), .second, .val (.int (1 : Int32)), .val (.long f1), .second, .val (.int ge1), .val (.int (own_res (0 : Int64) f1 bud)), .val (.long f2), .second, .val (.int ge2), .val (.int (own_res r1 f2 bud)), .val (.long f3), .second, .val (.int ge3), .val (.int (own_res r2 f3 bud))] [(.int (1 : Int32))]))
              refine own_via (fun t k => XS.goto X18.here hx rfl (pc0 := 251) (pc' := 255) rfl (hb hby at_251) (by decide) (by decide) k) ?_
              show OwnEnds p.tables e below _ (T18.setTop (mkF m 255 #[.val (.long q0), .second, .val (.long q1), .second, .val (.long q2), .second, .val (.long q3), .second, .val (.int p4), .val (.long bud), .second, .val (.ref b2), .val (.long qq), .second, .val (.long r2), .second, .val (.int (1 : Int32)), .val (.long f1), .second, .val (.int ge1), .val (.int (own_res (0 : Int64) f1 bud)), .val (.long f2), .second, .val (.int ge2), .val (.int (own_res r1 f2 bud)), .val (.long f3), .second, .val (.int ge3), .val (.int (own_res r2 f3 bud))] [(.int (1 : Int32))]))
              refine own_via (fun t k => XS.istore X18.here hx rfl (hb hby at_255) rfl (l' := #[.val (.long q0), .second, .val (.long q1), .second, .val (.long q2), .second, .val (.long q3), .second, .val (.int p4), .val (.long bud), .second, .val (.ref b2), .val (.long qq), .second, .val (.long r2), .second, .val (.int (1 : Int32)), .val (.long f1), .second, .val (.int ge1), .val (.int (own_res (0 : Int64) f1 bud)), .val (.long f2), .second, .val (.int ge2), .val (.int (own_res r1 f2 bud)), .val (.long f3), .second, .val (.int ge3), .val (.int (own_res r2 f3 bud))]) rfl k) ?_
              show OwnEnds p.tables e below _ (T18.setTop (mkF m 257 #[.val (.long q0), .second, .val (.long q1), .second, .val (.long q2), .second, .val (.long q3), .second, .val (.int p4), .val (.long bud), .second, .val (.ref b2), .val (.long qq), .second, .val (.long r2), .second, .val (.int (1 : Int32)), .val (.long f1), .second, .val (.int ge1), .val (.int (own_res (0 : Int64) f1 bud)), .val (.long f2), .second, .val (.int ge2), .val (.int (own_res r1 f2 bud)), .val (.long f3), .second, .val (.int ge3), .val (.int (own_res r2 f3 bud))] []))
              refine own_via (fun t k => XS.iload X18.here hx rfl (hb hby at_257) rfl k) ?_
              show OwnEnds p.tables e below _ (T18.setTop (mkF m 259 #[.val (.long q0), .second, .val (.long q1), .second, .val (.long q2), .second, .val (.long q3), .second, .val (.int p4), .val (.long bud), .second, .val (.ref b2), .val (.long qq), .second, .val (.long r2), .second, .val (.int (1 : Int32)), .val (.long f1), .second, .val (.int ge1), .val (.int (own_res (0 : Int64) f1 bud)), .val (.long f2), .second, .val (.int ge2), .val (.int (own_res r1 f2 bud)), .val (.long f3), .second, .val (.int ge3), .val (.int (own_res r2 f3 bud))] [(.int ge3)]))
              have J269_21 : ∀ r3 : Int64, r3 = (if ge3 = (0 : Int32) then r2 else (r2 + f3)) → OwnEnds p.tables e below (OwnQ s 16 128 (Q0 Z q0 q1 q2 q3 p4 h0 n0)) (T18.setTop (mkF m 269 #[.val (.long q0), .second, .val (.long q1), .second, .val (.long q2), .second, .val (.long q3), .second, .val (.int p4), .val (.long bud), .second, .val (.ref b2), .val (.long qq), .second, .val (.long r3), .second, .val (.int (1 : Int32)), .val (.long f1), .second, .val (.int ge1), .val (.int (own_res (0 : Int64) f1 bud)), .val (.long f2), .second, .val (.int ge2), .val (.int (own_res r1 f2 bud)), .val (.long f3), .second, .val (.int ge3), .val (.int (own_res r2 f3 bud))] [])) := by
                intro r3 h_r3
                have hin3 := own_inv hin hf3 h_ge3 h_r3
                rw [own_nrEq hin h_qq hf3 h_ge3 h_r3] at F_reserved_b2
                clear hin
                have hin := hin3
                refine own_via (fun t k => XS.iload X18.here hx rfl (hb hby at_269) rfl k) ?_
                show OwnEnds p.tables e below _ (T18.setTop (mkF m 271 #[.val (.long q0), .second, .val (.long q1), .second, .val (.long q2), .second, .val (.long q3), .second, .val (.int p4), .val (.long bud), .second, .val (.ref b2), .val (.long qq), .second, .val (.long r3), .second, .val (.int (1 : Int32)), .val (.long f1), .second, .val (.int ge1), .val (.int (own_res (0 : Int64) f1 bud)), .val (.long f2), .second, .val (.int ge2), .val (.int (own_res r1 f2 bud)), .val (.long f3), .second, .val (.int ge3), .val (.int (own_res r2 f3 bud))] [(.int (1 : Int32))]))
                have hc271_22 : ¬ ((1 : Int32) = (0 : Int32)) := by decide
                refine own_via (fun t k => XS.ifNo X18.here hx rfl (hb hby at_271) rfl ((if0 _ _).trans (feq hc271_22).1) k) ?_
                show OwnEnds p.tables e below _ (T18.setTop (mkF m 274 #[.val (.long q0), .second, .val (.long q1), .second, .val (.long q2), .second, .val (.long q3), .second, .val (.int p4), .val (.long bud), .second, .val (.ref b2), .val (.long qq), .second, .val (.long r3), .second, .val (.int (1 : Int32)), .val (.long f1), .second, .val (.int ge1), .val (.int (own_res (0 : Int64) f1 bud)), .val (.long f2), .second, .val (.int ge2), .val (.int (own_res r1 f2 bud)), .val (.long f3), .second, .val (.int ge3), .val (.int (own_res r2 f3 bud))] []))
                refine own_via (fun t k => XS.lload X18.here hx rfl (hb hby at_274) rfl k) ?_
                show OwnEnds p.tables e below _ (T18.setTop (mkF m 276 #[.val (.long q0), .second, .val (.long q1), .second, .val (.long q2), .second, .val (.long q3), .second, .val (.int p4), .val (.long bud), .second, .val (.ref b2), .val (.long qq), .second, .val (.long r3), .second, .val (.int (1 : Int32)), .val (.long f1), .second, .val (.int ge1), .val (.int (own_res (0 : Int64) f1 bud)), .val (.long f2), .second, .val (.int ge2), .val (.int (own_res r1 f2 bud)), .val (.long f3), .second, .val (.int ge3), .val (.int (own_res r2 f3 bud))] [(.long r3)]))
                refine own_via (fun t k => XS.lconst X18.here hx rfl (hb hby at_276) k) ?_
                show OwnEnds p.tables e below _ (T18.setTop (mkF m 277 #[.val (.long q0), .second, .val (.long q1), .second, .val (.long q2), .second, .val (.long q3), .second, .val (.int p4), .val (.long bud), .second, .val (.ref b2), .val (.long qq), .second, .val (.long r3), .second, .val (.int (1 : Int32)), .val (.long f1), .second, .val (.int ge1), .val (.int (own_res (0 : Int64) f1 bud)), .val (.long f2), .second, .val (.int ge2), .val (.int (own_res r1 f2 bud)), .val (.long f3), .second, .val (.int ge3), .val (.int (own_res r2 f3 bud))] [(.long (0 : Int64)), (.long r3)]))
                refine own_via (fun t k => XS.lcmp X18.here hx rfl (hb hby at_277) rfl k) ?_
                show OwnEnds p.tables e below _ (T18.setTop (mkF m 278 #[.val (.long q0), .second, .val (.long q1), .second, .val (.long q2), .second, .val (.long q3), .second, .val (.int p4), .val (.long bud), .second, .val (.ref b2), .val (.long qq), .second, .val (.long r3), .second, .val (.int (1 : Int32)), .val (.long f1), .second, .val (.int ge1), .val (.int (own_res (0 : Int64) f1 bud)), .val (.long f2), .second, .val (.int ge2), .val (.int (own_res r1 f2 bud)), .val (.long f3), .second, .val (.int ge3), .val (.int (own_res r2 f3 bud))] [(.int (lcmpW r3 (0 : Int64)))]))
                have hc278_23 : ¬ (r3 < (0 : Int64)) := fun c => by rw [Int64.lt_iff_toInt_lt] at c; exact absurd hin.1 (Int.not_le.mpr c)
                refine own_via (fun t k => XS.ifNo X18.here hx rfl (hb hby at_278) rfl (own_lc_lt_f hc278_23).1 k) ?_
                show OwnEnds p.tables e below _ (T18.setTop (mkF m 281 #[.val (.long q0), .second, .val (.long q1), .second, .val (.long q2), .second, .val (.long q3), .second, .val (.int p4), .val (.long bud), .second, .val (.ref b2), .val (.long qq), .second, .val (.long r3), .second, .val (.int (1 : Int32)), .val (.long f1), .second, .val (.int ge1), .val (.int (own_res (0 : Int64) f1 bud)), .val (.long f2), .second, .val (.int ge2), .val (.int (own_res r1 f2 bud)), .val (.long f3), .second, .val (.int ge3), .val (.int (own_res r2 f3 bud))] []))
                refine own_via (fun t k => XS.lload X18.here hx rfl (hb hby at_281) rfl k) ?_
                show OwnEnds p.tables e below _ (T18.setTop (mkF m 283 #[.val (.long q0), .second, .val (.long q1), .second, .val (.long q2), .second, .val (.long q3), .second, .val (.int p4), .val (.long bud), .second, .val (.ref b2), .val (.long qq), .second, .val (.long r3), .second, .val (.int (1 : Int32)), .val (.long f1), .second, .val (.int ge1), .val (.int (own_res (0 : Int64) f1 bud)), .val (.long f2), .second, .val (.int ge2), .val (.int (own_res r1 f2 bud)), .val (.long f3), .second, .val (.int ge3), .val (.int (own_res r2 f3 bud))] [(.long r3)]))
                refine own_via (fun t k => XS.lload X18.here hx rfl (hb hby at_283) rfl k) ?_
                show OwnEnds p.tables e below _ (T18.setTop (mkF m 285 #[.val (.long q0), .second, .val (.long q1), .second, .val (.long q2), .second, .val (.long q3), .second, .val (.int p4), .val (.long bud), .second, .val (.ref b2), .val (.long qq), .second, .val (.long r3), .second, .val (.int (1 : Int32)), .val (.long f1), .second, .val (.int ge1), .val (.int (own_res (0 : Int64) f1 bud)), .val (.long f2), .second, .val (.int ge2), .val (.int (own_res r1 f2 bud)), .val (.long f3), .second, .val (.int ge3), .val (.int (own_res r2 f3 bud))] [(.long qq), (.long r3)]))
                refine own_via (fun t k => XS.lcmp X18.here hx rfl (hb hby at_285) rfl k) ?_
                show OwnEnds p.tables e below _ (T18.setTop (mkF m 286 #[.val (.long q0), .second, .val (.long q1), .second, .val (.long q2), .second, .val (.long q3), .second, .val (.int p4), .val (.long bud), .second, .val (.ref b2), .val (.long qq), .second, .val (.long r3), .second, .val (.int (1 : Int32)), .val (.long f1), .second, .val (.int ge1), .val (.int (own_res (0 : Int64) f1 bud)), .val (.long f2), .second, .val (.int ge2), .val (.int (own_res r1 f2 bud)), .val (.long f3), .second, .val (.int ge3), .val (.int (own_res r2 f3 bud))] [(.int (lcmpW r3 qq))]))
                have hc286_24 : ¬ (qq < r3) := fun c => by rw [Int64.lt_iff_toInt_lt] at c; exact absurd hin.2.1 (Int.not_le.mpr c)
                refine own_via (fun t k => XS.ifNo X18.here hx rfl (hb hby at_286) rfl (own_lc_gt_f hc286_24).1 k) ?_
                show OwnEnds p.tables e below _ (T18.setTop (mkF m 289 #[.val (.long q0), .second, .val (.long q1), .second, .val (.long q2), .second, .val (.long q3), .second, .val (.int p4), .val (.long bud), .second, .val (.ref b2), .val (.long qq), .second, .val (.long r3), .second, .val (.int (1 : Int32)), .val (.long f1), .second, .val (.int ge1), .val (.int (own_res (0 : Int64) f1 bud)), .val (.long f2), .second, .val (.int ge2), .val (.int (own_res r1 f2 bud)), .val (.long f3), .second, .val (.int ge3), .val (.int (own_res r2 f3 bud))] []))
                refine own_via (fun t k => XS.iconst X18.here hx rfl (hb hby at_289) k) ?_
                show OwnEnds p.tables e below _ (T18.setTop (mkF m 290 #[.val (.long q0), .second, .val (.long q1), .second, .val (.long q2), .second, .val (.long q3), .second, .val (.int p4), .val (.long bud), .second, .val (.ref b2), .val (.long qq), .second, .val (.long r3), .second, .val (.int (1 : Int32)), .val (.long f1), .second, .val (.int ge1), .val (.int (own_res (0 : Int64) f1 bud)), .val (.long f2), .second, .val (.int ge2), .val (.int (own_res r1 f2 bud)), .val (.long f3), .second, .val (.int ge3), .val (.int (own_res r2 f3 bud))] [(.int (1 : Int32))]))
                refine own_via (fun t k => XS.goto X18.here hx rfl (pc0 := 290) (pc' := 294) rfl (hb hby at_290) (by decide) (by decide) k) ?_
                show OwnEnds p.tables e below _ (T18.setTop (mkF m 294 #[.val (.long q0), .second, .val (.long q1), .second, .val (.long q2), .second, .val (.long q3), .second, .val (.int p4), .val (.long bud), .second, .val (.ref b2), .val (.long qq), .second, .val (.long r3), .second, .val (.int (1 : Int32)), .val (.long f1), .second, .val (.int ge1), .val (.int (own_res (0 : Int64) f1 bud)), .val (.long f2), .second, .val (.int ge2), .val (.int (own_res r1 f2 bud)), .val (.long f3), .second, .val (.int ge3), .val (.int (own_res r2 f3 bud))] [(.int (1 : Int32))]))
                refine own_retN (t := .boolean) X18 hx Bd.returns (by simp) hlk (hb hby at_294) ?_ (by decide) (by decide)
                rw [e18]
                exact ⟨rfl, N18⟩
              by_cases hc259_25 : ge3 = (0 : Int32)
              · skip
                refine own_via (fun t k => XS.ifYes X18.here hx rfl (pc0 := 259) (pc' := 269) rfl (hb hby at_259) rfl ((if0 _ _).trans (teq hc259_25).1) (by decide) (by decide) k) ?_
                show OwnEnds p.tables e below _ (T18.setTop (mkF m 269 #[.val (.long q0), .second, .val (.long q1), .second, .val (.long q2), .second, .val (.long q3), .second, .val (.int p4), .val (.long bud), .second, .val (.ref b2), .val (.long qq), .second, .val (.long r2), .second, .val (.int (1 : Int32)), .val (.long f1), .second, .val (.int ge1), .val (.int (own_res (0 : Int64) f1 bud)), .val (.long f2), .second, .val (.int ge2), .val (.int (own_res r1 f2 bud)), .val (.long f3), .second, .val (.int ge3), .val (.int (own_res r2 f3 bud))] []))
                exact J269_21 _ (by simp only [if_pos hc259_25])
              · skip
                refine own_via (fun t k => XS.ifNo X18.here hx rfl (hb hby at_259) rfl ((if0 _ _).trans (feq hc259_25).1) k) ?_
                show OwnEnds p.tables e below _ (T18.setTop (mkF m 262 #[.val (.long q0), .second, .val (.long q1), .second, .val (.long q2), .second, .val (.long q3), .second, .val (.int p4), .val (.long bud), .second, .val (.ref b2), .val (.long qq), .second, .val (.long r2), .second, .val (.int (1 : Int32)), .val (.long f1), .second, .val (.int ge1), .val (.int (own_res (0 : Int64) f1 bud)), .val (.long f2), .second, .val (.int ge2), .val (.int (own_res r1 f2 bud)), .val (.long f3), .second, .val (.int ge3), .val (.int (own_res r2 f3 bud))] []))
                refine own_via (fun t k => XS.lload X18.here hx rfl (hb hby at_262) rfl k) ?_
                show OwnEnds p.tables e below _ (T18.setTop (mkF m 264 #[.val (.long q0), .second, .val (.long q1), .second, .val (.long q2), .second, .val (.long q3), .second, .val (.int p4), .val (.long bud), .second, .val (.ref b2), .val (.long qq), .second, .val (.long r2), .second, .val (.int (1 : Int32)), .val (.long f1), .second, .val (.int ge1), .val (.int (own_res (0 : Int64) f1 bud)), .val (.long f2), .second, .val (.int ge2), .val (.int (own_res r1 f2 bud)), .val (.long f3), .second, .val (.int ge3), .val (.int (own_res r2 f3 bud))] [(.long r2)]))
                refine own_via (fun t k => XS.lload X18.here hx rfl (hb hby at_264) rfl k) ?_
                show OwnEnds p.tables e below _ (T18.setTop (mkF m 266 #[.val (.long q0), .second, .val (.long q1), .second, .val (.long q2), .second, .val (.long q3), .second, .val (.int p4), .val (.long bud), .second, .val (.ref b2), .val (.long qq), .second, .val (.long r2), .second, .val (.int (1 : Int32)), .val (.long f1), .second, .val (.int ge1), .val (.int (own_res (0 : Int64) f1 bud)), .val (.long f2), .second, .val (.int ge2), .val (.int (own_res r1 f2 bud)), .val (.long f3), .second, .val (.int ge3), .val (.int (own_res r2 f3 bud))] [(.long f3), (.long r2)]))
                refine own_via (fun t k => XS.ladd X18.here hx rfl (hb hby at_266) rfl k) ?_
                show OwnEnds p.tables e below _ (T18.setTop (mkF m 267 #[.val (.long q0), .second, .val (.long q1), .second, .val (.long q2), .second, .val (.long q3), .second, .val (.int p4), .val (.long bud), .second, .val (.ref b2), .val (.long qq), .second, .val (.long r2), .second, .val (.int (1 : Int32)), .val (.long f1), .second, .val (.int ge1), .val (.int (own_res (0 : Int64) f1 bud)), .val (.long f2), .second, .val (.int ge2), .val (.int (own_res r1 f2 bud)), .val (.long f3), .second, .val (.int ge3), .val (.int (own_res r2 f3 bud))] [(.long (r2 + f3))]))
                refine own_via (fun t k => XS.lstore X18.here hx rfl (hb hby at_267) rfl (l' := #[.val (.long q0), .second, .val (.long q1), .second, .val (.long q2), .second, .val (.long q3), .second, .val (.int p4), .val (.long bud), .second, .val (.ref b2), .val (.long qq), .second, .val (.long (r2 + f3)), .second, .val (.int (1 : Int32)), .val (.long f1), .second, .val (.int ge1), .val (.int (own_res (0 : Int64) f1 bud)), .val (.long f2), .second, .val (.int ge2), .val (.int (own_res r1 f2 bud)), .val (.long f3), .second, .val (.int ge3), .val (.int (own_res r2 f3 bud))]) rfl k) ?_
                show OwnEnds p.tables e below _ (T18.setTop (mkF m 269 #[.val (.long q0), .second, .val (.long q1), .second, .val (.long q2), .second, .val (.long q3), .second, .val (.int p4), .val (.long bud), .second, .val (.ref b2), .val (.long qq), .second, .val (.long (r2 + f3)), .second, .val (.int (1 : Int32)), .val (.long f1), .second, .val (.int ge1), .val (.int (own_res (0 : Int64) f1 bud)), .val (.long f2), .second, .val (.int ge2), .val (.int (own_res r1 f2 bud)), .val (.long f3), .second, .val (.int ge3), .val (.int (own_res r2 f3 bud))] []))
                exact J269_21 _ (by simp only [if_neg hc259_25])
            by_cases hc219_26 : (qq - r2) < f3
            · skip
              refine own_via (fun t k => XS.ifYes X16.here hx rfl (pc0 := 219) (pc' := 226) rfl (hb hby at_219) rfl (own_lc_gt_t hc219_26).1 (by decide) (by decide) k) ?_
              show OwnEnds p.tables e below _ (T16.setTop (mkF m 226 #[.val (.long q0), .second, .val (.long q1), .second, .val (.long q2), .second, .val (.long q3), .second, .val (.int p4), .val (.long bud), .second, .val (.ref b2), .val (.long qq), .second, .val (.long r2), .second, .val (.int (1 : Int32)), .val (.long f1), .second, .val (.int ge1), .val (.int (own_res (0 : Int64) f1 bud)), .val (.long f2), .second, .val (.int ge2), .val (.int (own_res r1 f2 bud)), .val (.long f3), .second, .unset, .unset] []))
              refine own_via (fun t k => XS.iconst X16.here hx rfl (hb hby at_226) k) ?_
              show OwnEnds p.tables e below _ (T16.setTop (mkF m 227 #[.val (.long q0), .second, .val (.long q1), .second, .val (.long q2), .second, .val (.long q3), .second, .val (.int p4), .val (.long bud), .second, .val (.ref b2), .val (.long qq), .second, .val (.long r2), .second, .val (.int (1 : Int32)), .val (.long f1), .second, .val (.int ge1), .val (.int (own_res (0 : Int64) f1 bud)), .val (.long f2), .second, .val (.int ge2), .val (.int (own_res r1 f2 bud)), .val (.long f3), .second, .unset, .unset] [(.int (0 : Int32))]))
              exact J227_17 _ (by simp only [if_pos hc219_26])
            · skip
              refine own_via (fun t k => XS.ifNo X16.here hx rfl (hb hby at_219) rfl (own_lc_gt_f hc219_26).1 k) ?_
              show OwnEnds p.tables e below _ (T16.setTop (mkF m 222 #[.val (.long q0), .second, .val (.long q1), .second, .val (.long q2), .second, .val (.long q3), .second, .val (.int p4), .val (.long bud), .second, .val (.ref b2), .val (.long qq), .second, .val (.long r2), .second, .val (.int (1 : Int32)), .val (.long f1), .second, .val (.int ge1), .val (.int (own_res (0 : Int64) f1 bud)), .val (.long f2), .second, .val (.int ge2), .val (.int (own_res r1 f2 bud)), .val (.long f3), .second, .unset, .unset] []))
              refine own_via (fun t k => XS.iconst X16.here hx rfl (hb hby at_222) k) ?_
              show OwnEnds p.tables e below _ (T16.setTop (mkF m 223 #[.val (.long q0), .second, .val (.long q1), .second, .val (.long q2), .second, .val (.long q3), .second, .val (.int p4), .val (.long bud), .second, .val (.ref b2), .val (.long qq), .second, .val (.long r2), .second, .val (.int (1 : Int32)), .val (.long f1), .second, .val (.int ge1), .val (.int (own_res (0 : Int64) f1 bud)), .val (.long f2), .second, .val (.int ge2), .val (.int (own_res r1 f2 bud)), .val (.long f3), .second, .unset, .unset] [(.int (1 : Int32))]))
              refine own_via (fun t k => XS.goto X16.here hx rfl (pc0 := 223) (pc' := 227) rfl (hb hby at_223) (by decide) (by decide) k) ?_
              show OwnEnds p.tables e below _ (T16.setTop (mkF m 227 #[.val (.long q0), .second, .val (.long q1), .second, .val (.long q2), .second, .val (.long q3), .second, .val (.int p4), .val (.long bud), .second, .val (.ref b2), .val (.long qq), .second, .val (.long r2), .second, .val (.int (1 : Int32)), .val (.long f1), .second, .val (.int ge1), .val (.int (own_res (0 : Int64) f1 bud)), .val (.long f2), .second, .val (.int ge2), .val (.int (own_res r1 f2 bud)), .val (.long f3), .second, .unset, .unset] [(.int (1 : Int32))]))
              exact J227_17 _ (by simp only [if_neg hc219_26])
          by_cases hc185_27 : ge2 = (0 : Int32)
          · skip
            refine own_via (fun t k => XS.ifYes X12.here hx rfl (pc0 := 185) (pc' := 195) rfl (hb hby at_185) rfl ((if0 _ _).trans (teq hc185_27).1) (by decide) (by decide) k) ?_
            show OwnEnds p.tables e below _ (T12.setTop (mkF m 195 #[.val (.long q0), .second, .val (.long q1), .second, .val (.long q2), .second, .val (.long q3), .second, .val (.int p4), .val (.long bud), .second, .val (.ref b2), .val (.long qq), .second, .val (.long r1), .second, .val (.int (1 : Int32)), .val (.long f1), .second, .val (.int ge1), .val (.int (own_res (0 : Int64) f1 bud)), .val (.long f2), .second, .val (.int ge2), .val (.int (own_res r1 f2 bud)), .unset, .unset, .unset, .unset] []))
            exact J195_15 _ (by simp only [if_pos hc185_27])
          · skip
            refine own_via (fun t k => XS.ifNo X12.here hx rfl (hb hby at_185) rfl ((if0 _ _).trans (feq hc185_27).1) k) ?_
            show OwnEnds p.tables e below _ (T12.setTop (mkF m 188 #[.val (.long q0), .second, .val (.long q1), .second, .val (.long q2), .second, .val (.long q3), .second, .val (.int p4), .val (.long bud), .second, .val (.ref b2), .val (.long qq), .second, .val (.long r1), .second, .val (.int (1 : Int32)), .val (.long f1), .second, .val (.int ge1), .val (.int (own_res (0 : Int64) f1 bud)), .val (.long f2), .second, .val (.int ge2), .val (.int (own_res r1 f2 bud)), .unset, .unset, .unset, .unset] []))
            refine own_via (fun t k => XS.lload X12.here hx rfl (hb hby at_188) rfl k) ?_
            show OwnEnds p.tables e below _ (T12.setTop (mkF m 190 #[.val (.long q0), .second, .val (.long q1), .second, .val (.long q2), .second, .val (.long q3), .second, .val (.int p4), .val (.long bud), .second, .val (.ref b2), .val (.long qq), .second, .val (.long r1), .second, .val (.int (1 : Int32)), .val (.long f1), .second, .val (.int ge1), .val (.int (own_res (0 : Int64) f1 bud)), .val (.long f2), .second, .val (.int ge2), .val (.int (own_res r1 f2 bud)), .unset, .unset, .unset, .unset] [(.long r1)]))
            refine own_via (fun t k => XS.lload X12.here hx rfl (hb hby at_190) rfl k) ?_
            show OwnEnds p.tables e below _ (T12.setTop (mkF m 192 #[.val (.long q0), .second, .val (.long q1), .second, .val (.long q2), .second, .val (.long q3), .second, .val (.int p4), .val (.long bud), .second, .val (.ref b2), .val (.long qq), .second, .val (.long r1), .second, .val (.int (1 : Int32)), .val (.long f1), .second, .val (.int ge1), .val (.int (own_res (0 : Int64) f1 bud)), .val (.long f2), .second, .val (.int ge2), .val (.int (own_res r1 f2 bud)), .unset, .unset, .unset, .unset] [(.long f2), (.long r1)]))
            refine own_via (fun t k => XS.ladd X12.here hx rfl (hb hby at_192) rfl k) ?_
            show OwnEnds p.tables e below _ (T12.setTop (mkF m 193 #[.val (.long q0), .second, .val (.long q1), .second, .val (.long q2), .second, .val (.long q3), .second, .val (.int p4), .val (.long bud), .second, .val (.ref b2), .val (.long qq), .second, .val (.long r1), .second, .val (.int (1 : Int32)), .val (.long f1), .second, .val (.int ge1), .val (.int (own_res (0 : Int64) f1 bud)), .val (.long f2), .second, .val (.int ge2), .val (.int (own_res r1 f2 bud)), .unset, .unset, .unset, .unset] [(.long (r1 + f2))]))
            refine own_via (fun t k => XS.lstore X12.here hx rfl (hb hby at_193) rfl (l' := #[.val (.long q0), .second, .val (.long q1), .second, .val (.long q2), .second, .val (.long q3), .second, .val (.int p4), .val (.long bud), .second, .val (.ref b2), .val (.long qq), .second, .val (.long (r1 + f2)), .second, .val (.int (1 : Int32)), .val (.long f1), .second, .val (.int ge1), .val (.int (own_res (0 : Int64) f1 bud)), .val (.long f2), .second, .val (.int ge2), .val (.int (own_res r1 f2 bud)), .unset, .unset, .unset, .unset]) rfl k) ?_
            show OwnEnds p.tables e below _ (T12.setTop (mkF m 195 #[.val (.long q0), .second, .val (.long q1), .second, .val (.long q2), .second, .val (.long q3), .second, .val (.int p4), .val (.long bud), .second, .val (.ref b2), .val (.long qq), .second, .val (.long (r1 + f2)), .second, .val (.int (1 : Int32)), .val (.long f1), .second, .val (.int ge1), .val (.int (own_res (0 : Int64) f1 bud)), .val (.long f2), .second, .val (.int ge2), .val (.int (own_res r1 f2 bud)), .unset, .unset, .unset, .unset] []))
            exact J195_15 _ (by simp only [if_neg hc185_27])
        by_cases hc145_28 : (qq - r1) < f2
        · skip
          refine own_via (fun t k => XS.ifYes X10.here hx rfl (pc0 := 145) (pc' := 152) rfl (hb hby at_145) rfl (own_lc_gt_t hc145_28).1 (by decide) (by decide) k) ?_
          show OwnEnds p.tables e below _ (T10.setTop (mkF m 152 #[.val (.long q0), .second, .val (.long q1), .second, .val (.long q2), .second, .val (.long q3), .second, .val (.int p4), .val (.long bud), .second, .val (.ref b2), .val (.long qq), .second, .val (.long r1), .second, .val (.int (1 : Int32)), .val (.long f1), .second, .val (.int ge1), .val (.int (own_res (0 : Int64) f1 bud)), .val (.long f2), .second, .unset, .unset, .unset, .unset, .unset, .unset] []))
          refine own_via (fun t k => XS.iconst X10.here hx rfl (hb hby at_152) k) ?_
          show OwnEnds p.tables e below _ (T10.setTop (mkF m 153 #[.val (.long q0), .second, .val (.long q1), .second, .val (.long q2), .second, .val (.long q3), .second, .val (.int p4), .val (.long bud), .second, .val (.ref b2), .val (.long qq), .second, .val (.long r1), .second, .val (.int (1 : Int32)), .val (.long f1), .second, .val (.int ge1), .val (.int (own_res (0 : Int64) f1 bud)), .val (.long f2), .second, .unset, .unset, .unset, .unset, .unset, .unset] [(.int (0 : Int32))]))
          exact J153_11 _ (by simp only [if_pos hc145_28])
        · skip
          refine own_via (fun t k => XS.ifNo X10.here hx rfl (hb hby at_145) rfl (own_lc_gt_f hc145_28).1 k) ?_
          show OwnEnds p.tables e below _ (T10.setTop (mkF m 148 #[.val (.long q0), .second, .val (.long q1), .second, .val (.long q2), .second, .val (.long q3), .second, .val (.int p4), .val (.long bud), .second, .val (.ref b2), .val (.long qq), .second, .val (.long r1), .second, .val (.int (1 : Int32)), .val (.long f1), .second, .val (.int ge1), .val (.int (own_res (0 : Int64) f1 bud)), .val (.long f2), .second, .unset, .unset, .unset, .unset, .unset, .unset] []))
          refine own_via (fun t k => XS.iconst X10.here hx rfl (hb hby at_148) k) ?_
          show OwnEnds p.tables e below _ (T10.setTop (mkF m 149 #[.val (.long q0), .second, .val (.long q1), .second, .val (.long q2), .second, .val (.long q3), .second, .val (.int p4), .val (.long bud), .second, .val (.ref b2), .val (.long qq), .second, .val (.long r1), .second, .val (.int (1 : Int32)), .val (.long f1), .second, .val (.int ge1), .val (.int (own_res (0 : Int64) f1 bud)), .val (.long f2), .second, .unset, .unset, .unset, .unset, .unset, .unset] [(.int (1 : Int32))]))
          refine own_via (fun t k => XS.goto X10.here hx rfl (pc0 := 149) (pc' := 153) rfl (hb hby at_149) (by decide) (by decide) k) ?_
          show OwnEnds p.tables e below _ (T10.setTop (mkF m 153 #[.val (.long q0), .second, .val (.long q1), .second, .val (.long q2), .second, .val (.long q3), .second, .val (.int p4), .val (.long bud), .second, .val (.ref b2), .val (.long qq), .second, .val (.long r1), .second, .val (.int (1 : Int32)), .val (.long f1), .second, .val (.int ge1), .val (.int (own_res (0 : Int64) f1 bud)), .val (.long f2), .second, .unset, .unset, .unset, .unset, .unset, .unset] [(.int (1 : Int32))]))
          exact J153_11 _ (by simp only [if_neg hc145_28])
      by_cases hc111_29 : ge1 = (0 : Int32)
      · skip
        refine own_via (fun t k => XS.ifYes X6.here hx rfl (pc0 := 111) (pc' := 121) rfl (hb hby at_111) rfl ((if0 _ _).trans (teq hc111_29).1) (by decide) (by decide) k) ?_
        show OwnEnds p.tables e below _ (T6.setTop (mkF m 121 #[.val (.long q0), .second, .val (.long q1), .second, .val (.long q2), .second, .val (.long q3), .second, .val (.int p4), .val (.long bud), .second, .val (.ref b2), .val (.long qq), .second, .val (.long (0 : Int64)), .second, .val (.int (1 : Int32)), .val (.long f1), .second, .val (.int ge1), .val (.int (own_res (0 : Int64) f1 bud)), .unset, .unset, .unset, .unset, .unset, .unset, .unset, .unset] []))
        exact J121_9 _ (by simp only [if_pos hc111_29])
      · skip
        refine own_via (fun t k => XS.ifNo X6.here hx rfl (hb hby at_111) rfl ((if0 _ _).trans (feq hc111_29).1) k) ?_
        show OwnEnds p.tables e below _ (T6.setTop (mkF m 114 #[.val (.long q0), .second, .val (.long q1), .second, .val (.long q2), .second, .val (.long q3), .second, .val (.int p4), .val (.long bud), .second, .val (.ref b2), .val (.long qq), .second, .val (.long (0 : Int64)), .second, .val (.int (1 : Int32)), .val (.long f1), .second, .val (.int ge1), .val (.int (own_res (0 : Int64) f1 bud)), .unset, .unset, .unset, .unset, .unset, .unset, .unset, .unset] []))
        refine own_via (fun t k => XS.lload X6.here hx rfl (hb hby at_114) rfl k) ?_
        show OwnEnds p.tables e below _ (T6.setTop (mkF m 116 #[.val (.long q0), .second, .val (.long q1), .second, .val (.long q2), .second, .val (.long q3), .second, .val (.int p4), .val (.long bud), .second, .val (.ref b2), .val (.long qq), .second, .val (.long (0 : Int64)), .second, .val (.int (1 : Int32)), .val (.long f1), .second, .val (.int ge1), .val (.int (own_res (0 : Int64) f1 bud)), .unset, .unset, .unset, .unset, .unset, .unset, .unset, .unset] [(.long (0 : Int64))]))
        refine own_via (fun t k => XS.lload X6.here hx rfl (hb hby at_116) rfl k) ?_
        show OwnEnds p.tables e below _ (T6.setTop (mkF m 118 #[.val (.long q0), .second, .val (.long q1), .second, .val (.long q2), .second, .val (.long q3), .second, .val (.int p4), .val (.long bud), .second, .val (.ref b2), .val (.long qq), .second, .val (.long (0 : Int64)), .second, .val (.int (1 : Int32)), .val (.long f1), .second, .val (.int ge1), .val (.int (own_res (0 : Int64) f1 bud)), .unset, .unset, .unset, .unset, .unset, .unset, .unset, .unset] [(.long f1), (.long (0 : Int64))]))
        refine own_via (fun t k => XS.ladd X6.here hx rfl (hb hby at_118) rfl k) ?_
        show OwnEnds p.tables e below _ (T6.setTop (mkF m 119 #[.val (.long q0), .second, .val (.long q1), .second, .val (.long q2), .second, .val (.long q3), .second, .val (.int p4), .val (.long bud), .second, .val (.ref b2), .val (.long qq), .second, .val (.long (0 : Int64)), .second, .val (.int (1 : Int32)), .val (.long f1), .second, .val (.int ge1), .val (.int (own_res (0 : Int64) f1 bud)), .unset, .unset, .unset, .unset, .unset, .unset, .unset, .unset] [(.long ((0 : Int64) + f1))]))
        refine own_via (fun t k => XS.lstore X6.here hx rfl (hb hby at_119) rfl (l' := #[.val (.long q0), .second, .val (.long q1), .second, .val (.long q2), .second, .val (.long q3), .second, .val (.int p4), .val (.long bud), .second, .val (.ref b2), .val (.long qq), .second, .val (.long ((0 : Int64) + f1)), .second, .val (.int (1 : Int32)), .val (.long f1), .second, .val (.int ge1), .val (.int (own_res (0 : Int64) f1 bud)), .unset, .unset, .unset, .unset, .unset, .unset, .unset, .unset]) rfl k) ?_
        show OwnEnds p.tables e below _ (T6.setTop (mkF m 121 #[.val (.long q0), .second, .val (.long q1), .second, .val (.long q2), .second, .val (.long q3), .second, .val (.int p4), .val (.long bud), .second, .val (.ref b2), .val (.long qq), .second, .val (.long ((0 : Int64) + f1)), .second, .val (.int (1 : Int32)), .val (.long f1), .second, .val (.int ge1), .val (.int (own_res (0 : Int64) f1 bud)), .unset, .unset, .unset, .unset, .unset, .unset, .unset, .unset] []))
        exact J121_9 _ (by simp only [if_neg hc111_29])
    by_cases hc71_30 : (qq - (0 : Int64)) < f1
    · skip
      refine own_via (fun t k => XS.ifYes X4.here hx rfl (pc0 := 71) (pc' := 78) rfl (hb hby at_71) rfl (own_lc_gt_t hc71_30).1 (by decide) (by decide) k) ?_
      show OwnEnds p.tables e below _ (T4.setTop (mkF m 78 #[.val (.long q0), .second, .val (.long q1), .second, .val (.long q2), .second, .val (.long q3), .second, .val (.int p4), .val (.long bud), .second, .val (.ref b2), .val (.long qq), .second, .val (.long (0 : Int64)), .second, .val (.int (1 : Int32)), .val (.long f1), .second, .unset, .unset, .unset, .unset, .unset, .unset, .unset, .unset, .unset, .unset] []))
      refine own_via (fun t k => XS.iconst X4.here hx rfl (hb hby at_78) k) ?_
      show OwnEnds p.tables e below _ (T4.setTop (mkF m 79 #[.val (.long q0), .second, .val (.long q1), .second, .val (.long q2), .second, .val (.long q3), .second, .val (.int p4), .val (.long bud), .second, .val (.ref b2), .val (.long qq), .second, .val (.long (0 : Int64)), .second, .val (.int (1 : Int32)), .val (.long f1), .second, .unset, .unset, .unset, .unset, .unset, .unset, .unset, .unset, .unset, .unset] [(.int (0 : Int32))]))
      exact J79_5 _ (by simp only [if_pos hc71_30])
    · skip
      refine own_via (fun t k => XS.ifNo X4.here hx rfl (hb hby at_71) rfl (own_lc_gt_f hc71_30).1 k) ?_
      show OwnEnds p.tables e below _ (T4.setTop (mkF m 74 #[.val (.long q0), .second, .val (.long q1), .second, .val (.long q2), .second, .val (.long q3), .second, .val (.int p4), .val (.long bud), .second, .val (.ref b2), .val (.long qq), .second, .val (.long (0 : Int64)), .second, .val (.int (1 : Int32)), .val (.long f1), .second, .unset, .unset, .unset, .unset, .unset, .unset, .unset, .unset, .unset, .unset] []))
      refine own_via (fun t k => XS.iconst X4.here hx rfl (hb hby at_74) k) ?_
      show OwnEnds p.tables e below _ (T4.setTop (mkF m 75 #[.val (.long q0), .second, .val (.long q1), .second, .val (.long q2), .second, .val (.long q3), .second, .val (.int p4), .val (.long bud), .second, .val (.ref b2), .val (.long qq), .second, .val (.long (0 : Int64)), .second, .val (.int (1 : Int32)), .val (.long f1), .second, .unset, .unset, .unset, .unset, .unset, .unset, .unset, .unset, .unset, .unset] [(.int (1 : Int32))]))
      refine own_via (fun t k => XS.goto X4.here hx rfl (pc0 := 75) (pc' := 79) rfl (hb hby at_75) (by decide) (by decide) k) ?_
      show OwnEnds p.tables e below _ (T4.setTop (mkF m 79 #[.val (.long q0), .second, .val (.long q1), .second, .val (.long q2), .second, .val (.long q3), .second, .val (.int p4), .val (.long bud), .second, .val (.ref b2), .val (.long qq), .second, .val (.long (0 : Int64)), .second, .val (.int (1 : Int32)), .val (.long f1), .second, .unset, .unset, .unset, .unset, .unset, .unset, .unset, .unset, .unset, .unset] [(.int (1 : Int32))]))
      exact J79_5 _ (by simp only [if_neg hc71_30])
  by_cases hc7_31 : ((p4 >>> ((6 : Int32) &&& 31)) &&& (1 : Int32)) = (0 : Int32)
  · skip
    refine own_via (fun t k => XS.ifYes X0.here hx rfl (pc0 := 7) (pc' := 18) rfl (hb hby at_7) rfl ((if0 _ _).trans (teq hc7_31).1) (by decide) (by decide) k) ?_
    show OwnEnds p.tables e below _ (s₁.setTop (mkF m 18 #[.val (.long q0), .second, .val (.long q1), .second, .val (.long q2), .second, .val (.long q3), .second, .val (.int p4), .unset, .unset, .unset, .unset, .unset, .unset, .unset, .unset, .unset, .unset, .unset, .unset, .unset, .unset, .unset, .unset, .unset, .unset, .unset, .unset] []))
    refine own_via (fun t k => XS.lloadN X0.here hx rfl (hb hby at_18) rfl k) ?_
    show OwnEnds p.tables e below _ (s₁.setTop (mkF m 19 #[.val (.long q0), .second, .val (.long q1), .second, .val (.long q2), .second, .val (.long q3), .second, .val (.int p4), .unset, .unset, .unset, .unset, .unset, .unset, .unset, .unset, .unset, .unset, .unset, .unset, .unset, .unset, .unset, .unset, .unset, .unset, .unset, .unset] [(.long q0)]))
    refine own_via (X0.ldc2Long hx hown (mvT hZ (hw _ (List.mem_of_getElem? (i := 0) rfl))) (g := (mkF m 19 #[.val (.long q0), .second, .val (.long q1), .second, .val (.long q2), .second, .val (.long q3), .second, .val (.int p4), .unset, .unset, .unset, .unset, .unset, .unset, .unset, .unset, .unset, .unset, .unset, .unset, .unset, .unset, .unset, .unset, .unset, .unset, .unset, .unset] [(.long q0)])) rfl (hb hby at_19)) ?_
    show OwnEnds p.tables e below _ (s₁.setTop (mkF m 22 #[.val (.long q0), .second, .val (.long q1), .second, .val (.long q2), .second, .val (.long q3), .second, .val (.int p4), .unset, .unset, .unset, .unset, .unset, .unset, .unset, .unset, .unset, .unset, .unset, .unset, .unset, .unset, .unset, .unset, .unset, .unset, .unset, .unset] [(.long (9223372036854775807 : Int64)), (.long q0)]))
    refine own_via (fun t k => XS.land X0.here hx rfl (hb hby at_22) rfl k) ?_
    show OwnEnds p.tables e below _ (s₁.setTop (mkF m 23 #[.val (.long q0), .second, .val (.long q1), .second, .val (.long q2), .second, .val (.long q3), .second, .val (.int p4), .unset, .unset, .unset, .unset, .unset, .unset, .unset, .unset, .unset, .unset, .unset, .unset, .unset, .unset, .unset, .unset, .unset, .unset, .unset, .unset] [(.long (q0 &&& (9223372036854775807 : Int64)))]))
    exact J23_1 _ (by simp only [if_pos hc7_31])
  · skip
    refine own_via (fun t k => XS.ifNo X0.here hx rfl (hb hby at_7) rfl ((if0 _ _).trans (feq hc7_31).1) k) ?_
    show OwnEnds p.tables e below _ (s₁.setTop (mkF m 10 #[.val (.long q0), .second, .val (.long q1), .second, .val (.long q2), .second, .val (.long q3), .second, .val (.int p4), .unset, .unset, .unset, .unset, .unset, .unset, .unset, .unset, .unset, .unset, .unset, .unset, .unset, .unset, .unset, .unset, .unset, .unset, .unset, .unset] []))
    refine own_via (fun t k => XS.lloadN X0.here hx rfl (hb hby at_10) rfl k) ?_
    show OwnEnds p.tables e below _ (s₁.setTop (mkF m 11 #[.val (.long q0), .second, .val (.long q1), .second, .val (.long q2), .second, .val (.long q3), .second, .val (.int p4), .unset, .unset, .unset, .unset, .unset, .unset, .unset, .unset, .unset, .unset, .unset, .unset, .unset, .unset, .unset, .unset, .unset, .unset, .unset, .unset] [(.long q0)]))
    refine own_via (X0.ldc2Long hx hown (mvT hZ (hw _ (List.mem_of_getElem? (i := 36) rfl))) (g := (mkF m 11 #[.val (.long q0), .second, .val (.long q1), .second, .val (.long q2), .second, .val (.long q3), .second, .val (.int p4), .unset, .unset, .unset, .unset, .unset, .unset, .unset, .unset, .unset, .unset, .unset, .unset, .unset, .unset, .unset, .unset, .unset, .unset, .unset, .unset] [(.long q0)])) rfl (hb hby at_11)) ?_
    show OwnEnds p.tables e below _ (s₁.setTop (mkF m 14 #[.val (.long q0), .second, .val (.long q1), .second, .val (.long q2), .second, .val (.long q3), .second, .val (.int p4), .unset, .unset, .unset, .unset, .unset, .unset, .unset, .unset, .unset, .unset, .unset, .unset, .unset, .unset, .unset, .unset, .unset, .unset, .unset, .unset] [(.long (255 : Int64)), (.long q0)]))
    refine own_via (fun t k => XS.land X0.here hx rfl (hb hby at_14) rfl k) ?_
    show OwnEnds p.tables e below _ (s₁.setTop (mkF m 15 #[.val (.long q0), .second, .val (.long q1), .second, .val (.long q2), .second, .val (.long q3), .second, .val (.int p4), .unset, .unset, .unset, .unset, .unset, .unset, .unset, .unset, .unset, .unset, .unset, .unset, .unset, .unset, .unset, .unset, .unset, .unset, .unset, .unset] [(.long (q0 &&& (255 : Int64)))]))
    refine own_via (fun t k => XS.goto X0.here hx rfl (pc0 := 15) (pc' := 23) rfl (hb hby at_15) (by decide) (by decide) k) ?_
    show OwnEnds p.tables e below _ (s₁.setTop (mkF m 23 #[.val (.long q0), .second, .val (.long q1), .second, .val (.long q2), .second, .val (.long q3), .second, .val (.int p4), .unset, .unset, .unset, .unset, .unset, .unset, .unset, .unset, .unset, .unset, .unset, .unset, .unset, .unset, .unset, .unset, .unset, .unset, .unset, .unset] [(.long (q0 &&& (255 : Int64)))]))
    exact J23_1 _ (by simp only [if_neg hc7_31])
set_option maxRecDepth 65536 in
set_option maxHeartbeats 40000000 in
theorem comes_1 {Post : Tables → Env → Array Value → State → Outcome → State → Prop} (hpost : ∀ tb e args s v u, (limb_1_1.after args s (.returned v) u = true ∧ limb_1_2.after args s (.returned v) u = true ∧ True) → FrameEnd s (.returned v) u (Jvm.fieldLocs frame_1_writes args s ++ Jvm.arrayLocs frame_1_arrays args s ++ Jvm.staticLocs frame_1_statics s) 16 128 → Post tb e args s (.returned v) u) :
    ArmFor flags0 classFile x code maxLocals ret World_1 tables_1 room_1 Calls_1 rest_1 Pre_1 Post := by
  intro l hfl _ _ p e ha hc hk s m args below hf hA hF happ hP
  obtain ⟨hcalls, hrest, hpre⟩ := hP
  obtain ⟨-, -, -, hnamed, -, -, -, hat⟩ := (Spec.applies_iff hf).mp happ
  obtain ⟨hg, hn⟩ := and_e (Cond.before_iff.mp (show (Jvm.Cond.and given_1 narrow_1).before args s = true from hpre))
  obtain ⟨hq0, hg0⟩ := and_e hg
  obtain ⟨hq1, hg1⟩ := and_e hg0
  obtain ⟨hq2, hg2⟩ := and_e hg1
  obtain ⟨hq3, hg3⟩ := and_e hg2
  obtain ⟨hq4, hg4⟩ := and_e hg3
  obtain ⟨w0, w1, w2, w3, w4, rfl⟩ : ∃ w0 w1 w2 w3 w4 : Value, args = #[w0, w1, w2, w3, w4] := by
    have hs : args.size = 5 := by simpa [Cond.value, given_1] using hq0
    obtain ⟨L⟩ := args
    match L, hs with
    | [w0, w1, w2, w3, w4], _ => exact ⟨w0, w1, w2, w3, w4, rfl⟩
  have hw := fun d (hd : d ∈ tables_1) => atoms_spec (ws := Jvm.Cond.code x code maxLocals ret :: tables_1) hat d (List.mem_cons_of_mem _ hd)
  have hfit : Fit s := fun {y c} hc i hi => by
    obtain ⟨ha, rfl⟩ := Array.getElem?_eq_some_iff.mp hc
    have q := List.all_eq_true.mp ((Array.all_eq_true_iff_forall_mem.mp hF) _ (Array.getElem_mem ha)) i (List.mem_range.mpr hi)
    simpa [Array.getElem?_eq_getElem hi] using q
  obtain ⟨i0, ei0⟩ := isL_v hq1
  obtain rfl : w0 = (.long i0) := Option.some.inj ei0
  obtain ⟨i1, ei1⟩ := isL_v hq2
  obtain rfl : w1 = (.long i1) := Option.some.inj ei1
  obtain ⟨i2, ei2⟩ := isL_v hq3
  obtain rfl : w2 = (.long i2) := Option.some.inj ei2
  obtain ⟨i3, ei3⟩ := isL_v hq4
  obtain rfl : w3 = (.long i3) := Option.some.inj ei3
  obtain ⟨i4, ei4⟩ := is_v hg4
  obtain rfl : w4 = (.int i4) := Option.some.inj ei4
  obtain ⟨n, o, h1, h2, h3, _, L, rfl, ⟨rfl, N⟩, hq⟩ := rm0 l s _ hw tables_1 i0 i1 i2 i3 i4 s.heap s.heap.size (Nat.le_refl _)  p e ha hc hk s m _ below hf ((Spec.applies_iff_loose hf).mp happ).1 ⟨rfl, State.Warmed39.refl s, rfl⟩ trivial
  refine ⟨n, _, h1, h2, h3, hpost _ _ _ _ _ _ ⟨Cond.after_iff.mpr rfl, Cond.after_iff.mpr (eq_i res_at (Term.int_eval (1)) rfl), trivial⟩ ⟨hq.1, hq.2.1, (hq.2.2.sift fun y hy => Or.inr (N y hy)).mono (by decide) (by decide)⟩⟩
theorem main_1_1 : Claimed_1_1 := comes_1 fun _ _ _ _ _ _ h hF => ⟨h.1, hF⟩
theorem main_1_2 : Claimed_1_2 := comes_1 fun _ _ _ _ _ _ h hF => ⟨h.2.1, hF⟩
end Jvm.Pilot.@@N@@
namespace Jvm.Pilot.@@N@@
open Jvm Jvm.ClassFile Sem Op Lib Jvm.Free Jvm.Stand Jvm.Pilot.@@N@@.Jvm.D
/-! MADE BY PROGRAM (witnessworld.py) out of the Statement's table words and the real class files: 17 classes; the members and pool entries that the words name. The judged class is class 1, her method 2. -/
namespace start1
open Jvm.ClassFile
def u (s : String) : CpInfo := .utf8 (stringToUtf16 s)
/-- a pool by its gaps: so many unusable entries, then the entry; so many at the end -/
def gap : Nat → List CpInfo → List CpInfo
  | 0, r => r
  | n + 1, r => .unusable :: gap n r
def poolList (es : List (Nat × CpInfo)) (last : Nat) : List CpInfo := es.foldr (fun e r => gap e.1 (e.2 :: r)) (gap last [])
def pool (es : List (Nat × CpInfo)) (last : Nat) : Array CpInfo := ⟨poolList es last⟩
def fileOf (pool : Array CpInfo) (this : Nat) (attrs : Array Attribute := #[]) (ms : Array MethodInfo := #[]) (fl : Nat := 33) (sup : Nat := 0) (ifs : Array Nat := #[]) (fds : Array FieldInfo := #[]) : ClassFile where
  minorVersion := 0
  majorVersion := 65
  constantPool := pool
  accessFlags := fl
  thisClass := this
  superClass := sup
  interfaces := ifs
  fields := fds
  methods := ms
  attributes := attrs
def plain (name : String) (sup : Option ClassId) : Class where
  name := name
  kind := .ordinary
  loader := none
  accessFlags := 33
  super := sup
  interfaces := #[]
  cf := none
  fields := #[]
  methods := #[]
  instanceTypes := #[]
  staticTypes := #[]
  resolved := #[]
  callSites := []
  init := .initialized
  statics := none
  mirror := none

def pool0 : Array CpInfo := pool [(5, u "<init>"), (0, u "()V"), (1, .class_ 10), (1, u "java/lang/Object")] 113

def k0c0 : Code := { maxStack := 0, maxLocals := 1, code := object_method_1_code, exceptionTable := #[], attributes := #[] }
def k0m0 : Method := { name := "<init>", desc := "()V", sig := { parameters := [], returnType := none }, accessFlags := 1, code := some k0c0 }
/-- java/lang/Object -/
def k0 : Class := { plain "java/lang/Object" none with
  accessFlags := 33
  interfaces := #[]
  cf := some (fileOf pool0 8 #[] #[{ accessFlags := 1, nameIndex := 5, descriptorIndex := 6, attributes := #[] }] 33 0 #[] #[])
  fields := #[]
  methods := #[k0m0]
  instanceTypes := #[]
  staticTypes := #[]
  resolved := Array.replicate 124 none
  statics := none }

def pool1 : Array CpInfo := pool [(2, .class_ 4), (1, u "java/lang/Object"), (0, u "<init>"), (0, u "()V"), (0, .long 4611686018427387903), (3, .long 9223372036854775807), (1, .long 255), (1, .class_ 16), (0, u "com/example/linkstage/linkstage/core/DeclarationCache"), (0, .methodref 15 18), (0, .nameAndType 5 19), (0, u "(J)V"), (0, .long 4), (1, .methodref 23 24), (0, .class_ 25), (0, .nameAndType 26 27), (0, u "com/example/linkstage/linkstage/core/DeclarationCacheReservePinLaw"), (0, u "pick"), (0, u "(JIJ)J"), (0, .methodref 15 29), (0, .nameAndType 30 31), (0, u "reserve"), (0, u "(J)Z"), (3, u "law"), (0, u "(JJJJI)Z")] 2

def k1m0 : Method := { name := "<init>", desc := "()V", sig := { parameters := [], returnType := none }, accessFlags := 2, code := none }
def k1c1 : Code := { maxStack := 6, maxLocals := 6, code := method_2_code, exceptionTable := #[], attributes := #[] }
def k1m1 : Method := { name := "pick", desc := "(JIJ)J", sig := { parameters := [.long, .int, .long], returnType := some .long }, accessFlags := 10, code := some k1c1 }
def k1c2 : Code := { maxStack := 7, maxLocals := 29, code := code, exceptionTable := #[], attributes := #[] }
def k1m2 : Method := { name := "law", desc := "(JJJJI)Z", sig := { parameters := [.long, .long, .long, .long, .int], returnType := some .boolean }, accessFlags := 9, code := some k1c2 }
/-- com/example/linkstage/linkstage/core/DeclarationCacheReservePinLaw -/
def k1 : Class := { plain "com/example/linkstage/linkstage/core/DeclarationCacheReservePinLaw" (some 0) with
  accessFlags := 49
  interfaces := #[]
  cf := some (fileOf pool1 23 #[] #[{ accessFlags := 2, nameIndex := 5, descriptorIndex := 6, attributes := #[] }, { accessFlags := 10, nameIndex := 26, descriptorIndex := 27, attributes := #[] }, { accessFlags := 9, nameIndex := 35, descriptorIndex := 36, attributes := #[] }] 49 2 #[] #[])
  fields := #[]
  methods := #[k1m0, k1m1, k1m2]
  instanceTypes := #[]
  staticTypes := #[]
  resolved := Array.replicate 39 none
  statics := none }

def pool2 : Array CpInfo := pool [(1, .methodref 2 3), (0, .class_ 4), (0, .nameAndType 5 6), (0, u "java/lang/Object"), (0, u "<init>"), (0, u "()V"), (0, .class_ 8), (0, u "java/util/ArrayDeque"), (0, .methodref 7 3), (0, .fieldref 11 12), (0, .class_ 13), (0, .nameAndType 14 15), (0, u "com/example/linkstage/linkstage/core/DeclarationCache"), (0, u "kept"), (0, u "Ljava/util/Deque;"), (0, .fieldref 11 17), (0, .nameAndType 18 19), (0, u "budget"), (0, u "J"), (2, u "check"), (0, u "I"), (0, .fieldref 11 25), (0, .nameAndType 26 19), (0, u "reserved"), (0, .long 4), (2, .class_ 32), (1, u "com/example/linkstage/linkstage/core/DeclarationCache$Slot"), (11, u "footprint"), (4, u "(J)Z"), (10, u "held"), (0, u "Lcom/example/linkstage/linkstage/core/DeclarationCache$Slot;"), (8, u "RESERVED_SHARE"), (4, u "(J)V"), (3, u "reserve")] 10

def k2c0 : Code := { maxStack := 3, maxLocals := 3, code := prog_35_method_1_code, exceptionTable := #[], attributes := #[] }
def k2m0 : Method := { name := "<init>", desc := "(J)V", sig := { parameters := [.long], returnType := none }, accessFlags := 0, code := some k2c0 }
def k2c1 : Code := { maxStack := 6, maxLocals := 4, code := prog_35_method_3_code, exceptionTable := #[], attributes := #[] }
def k2m1 : Method := { name := "reserve", desc := "(J)Z", sig := { parameters := [.long], returnType := some .boolean }, accessFlags := 0, code := some k2c1 }
/-- com/example/linkstage/linkstage/core/DeclarationCache -/
def k2 : Class := { plain "com/example/linkstage/linkstage/core/DeclarationCache" (some 0) with
  accessFlags := 48
  interfaces := #[]
  cf := some (fileOf pool2 11 #[.nestMembers #[30]] #[{ accessFlags := 0, nameIndex := 5, descriptorIndex := 75, attributes := #[] }, { accessFlags := 0, nameIndex := 79, descriptorIndex := 49, attributes := #[] }] 48 2 #[] #[{ accessFlags := 26, nameIndex := 70, descriptorIndex := 23, attributes := #[] }, { accessFlags := 18, nameIndex := 18, descriptorIndex := 19, attributes := #[] }, { accessFlags := 18, nameIndex := 14, descriptorIndex := 15, attributes := #[] }, { accessFlags := 2, nameIndex := 60, descriptorIndex := 61, attributes := #[] }, { accessFlags := 2, nameIndex := 44, descriptorIndex := 19, attributes := #[] }, { accessFlags := 2, nameIndex := 26, descriptorIndex := 19, attributes := #[] }, { accessFlags := 2, nameIndex := 22, descriptorIndex := 23, attributes := #[] }])
  fields := #[{ name := "RESERVED_SHARE", type := .int, accessFlags := 26, slot := 0, constantValue := 0 }, { name := "budget", type := .long, accessFlags := 18, slot := 0, constantValue := 0 }, { name := "kept", type := (.object "java/util/Deque"), accessFlags := 18, slot := 1, constantValue := 0 }, { name := "held", type := (.object "com/example/linkstage/linkstage/core/DeclarationCache$Slot"), accessFlags := 2, slot := 2, constantValue := 0 }, { name := "footprint", type := .long, accessFlags := 2, slot := 3, constantValue := 0 }, { name := "reserved", type := .long, accessFlags := 2, slot := 4, constantValue := 0 }, { name := "check", type := .int, accessFlags := 2, slot := 5, constantValue := 0 }]
  methods := #[k2m0, k2m1]
  instanceTypes := #[.long, (.object "java/util/Deque"), (.object "com/example/linkstage/linkstage/core/DeclarationCache$Slot"), .long, .long, .int]
  staticTypes := #[.int]
  resolved := Array.replicate 90 none
  statics := none }

def pool3 : Array CpInfo := pool [(8, .class_ 10), (1, u "java/lang/Iterable"), (24, .class_ 36), (0, u "java/lang/Object")] 25

/-- java/lang/Iterable -/
def k3 : Class := { plain "java/lang/Iterable" (some 0) with
  accessFlags := 1537
  interfaces := #[]
  cf := some (fileOf pool3 8 #[] #[] 1537 35 #[] #[])
  fields := #[]
  methods := #[]
  instanceTypes := #[]
  staticTypes := #[]
  resolved := Array.replicate 62 none
  statics := none }

def pool4 : Array CpInfo := pool [(10, .class_ 12), (1, u "java/util/Collection"), (47, .class_ 61), (0, u "java/lang/Object"), (0, .class_ 63), (0, u "java/lang/Iterable")] 51

/-- java/util/Collection -/
def k4 : Class := { plain "java/util/Collection" (some 0) with
  accessFlags := 1537
  interfaces := #[3]
  cf := some (fileOf pool4 10 #[] #[] 1537 60 #[62] #[])
  fields := #[]
  methods := #[]
  instanceTypes := #[]
  staticTypes := #[]
  resolved := Array.replicate 115 none
  statics := none }

def pool5 : Array CpInfo := pool [(1, .methodref 2 3), (0, .class_ 4), (0, .nameAndType 5 6), (0, u "java/lang/Object"), (0, u "<init>"), (0, u "()V"), (1, .class_ 10), (1, u "java/util/AbstractCollection"), (66, .class_ 78), (0, u "java/util/Collection")] 81

def k5c0 : Code := { maxStack := 1, maxLocals := 1, code := jdk_22_method_1_code, exceptionTable := #[], attributes := #[] }
def k5m0 : Method := { name := "<init>", desc := "()V", sig := { parameters := [], returnType := none }, accessFlags := 4, code := some k5c0 }
/-- java/util/AbstractCollection -/
def k5 : Class := { plain "java/util/AbstractCollection" (some 0) with
  accessFlags := 1057
  interfaces := #[4]
  cf := some (fileOf pool5 8 #[] #[{ accessFlags := 4, nameIndex := 5, descriptorIndex := 6, attributes := #[] }] 1057 2 #[77] #[])
  fields := #[]
  methods := #[k5m0]
  instanceTypes := #[]
  staticTypes := #[]
  resolved := Array.replicate 160 none
  statics := none }

def pool6 : Array CpInfo := pool [(1, .class_ 2), (0, u "java/util/Queue"), (0, .class_ 4), (0, u "java/lang/Object"), (0, .class_ 6), (0, u "java/util/Collection")] 14

/-- java/util/Queue -/
def k6 : Class := { plain "java/util/Queue" (some 0) with
  accessFlags := 1537
  interfaces := #[4]
  cf := some (fileOf pool6 1 #[] #[] 1537 3 #[5] #[])
  fields := #[]
  methods := #[]
  instanceTypes := #[]
  staticTypes := #[]
  resolved := Array.replicate 21 none
  statics := none }

def pool7 : Array CpInfo := pool [(8, .class_ 10), (1, u "java/util/SequencedCollection"), (15, .class_ 27), (0, u "java/lang/Object"), (0, .class_ 29), (0, u "java/util/Collection")] 27

/-- java/util/SequencedCollection -/
def k7 : Class := { plain "java/util/SequencedCollection" (some 0) with
  accessFlags := 1537
  interfaces := #[4]
  cf := some (fileOf pool7 8 #[] #[] 1537 26 #[28] #[])
  fields := #[]
  methods := #[]
  instanceTypes := #[]
  staticTypes := #[]
  resolved := Array.replicate 57 none
  statics := none }

def pool8 : Array CpInfo := pool [(8, .class_ 10), (1, u "java/util/Deque"), (2, .class_ 14), (0, u "java/lang/Object"), (0, .class_ 16), (0, u "java/util/Queue"), (0, .class_ 18), (0, u "java/util/SequencedCollection")] 51

/-- java/util/Deque -/
def k8 : Class := { plain "java/util/Deque" (some 0) with
  accessFlags := 1537
  interfaces := #[6, 7]
  cf := some (fileOf pool8 8 #[] #[] 1537 13 #[15, 17] #[])
  fields := #[]
  methods := #[]
  instanceTypes := #[]
  staticTypes := #[]
  resolved := Array.replicate 70 none
  statics := none }

def pool9 : Array CpInfo := pool [(1, .class_ 2), (0, u "java/lang/Cloneable"), (0, .class_ 4), (0, u "java/lang/Object")] 2

/-- java/lang/Cloneable -/
def k9 : Class := { plain "java/lang/Cloneable" (some 0) with
  accessFlags := 1537
  interfaces := #[]
  cf := some (fileOf pool9 1 #[] #[] 1537 3 #[] #[])
  fields := #[]
  methods := #[]
  instanceTypes := #[]
  staticTypes := #[]
  resolved := Array.replicate 7 none
  statics := none }

def pool10 : Array CpInfo := pool [(1, .class_ 2), (0, u "java/io/Serializable"), (0, .class_ 4), (0, u "java/lang/Object")] 2

/-- java/io/Serializable -/
def k10 : Class := { plain "java/io/Serializable" (some 0) with
  accessFlags := 1537
  interfaces := #[]
  cf := some (fileOf pool10 1 #[] #[] 1537 3 #[] #[])
  fields := #[]
  methods := #[]
  instanceTypes := #[]
  staticTypes := #[]
  resolved := Array.replicate 7 none
  statics := none }

def pool11 : Array CpInfo := pool [(3, .fieldref 4 5), (0, .class_ 6), (0, .nameAndType 7 8), (0, u "java/util/ArrayDeque"), (0, u "elements"), (0, u "[Ljava/lang/Object;"), (13, u "tail"), (0, u "I"), (2, u "head"), (12, u "<init>"), (2, .methodref 43 44), (0, .class_ 45), (0, .nameAndType 39 46), (0, u "java/util/AbstractCollection"), (0, u "()V"), (0, .class_ 48), (0, u "java/lang/Object"), (82, .class_ 132), (0, u "java/util/ArrayDeque$DeqIterator"), (3, .class_ 137), (0, u "java/util/ArrayDeque$DescendingIterator"), (1, .class_ 140), (0, u "java/util/ArrayDeque$DeqSpliterator"), (137, .class_ 279), (0, u "java/util/Deque"), (0, .class_ 281), (0, u "java/lang/Cloneable"), (0, .class_ 283), (0, u "java/io/Serializable"), (0, u "MAX_ARRAY_SIZE"), (1, u "serialVersionUID"), (0, u "J")] 150

def k11c0 : Code := { maxStack := 2, maxLocals := 1, code := jdk_21_method_3_code, exceptionTable := #[], attributes := #[] }
def k11m0 : Method := { name := "<init>", desc := "()V", sig := { parameters := [], returnType := none }, accessFlags := 1, code := some k11c0 }
/-- java/util/ArrayDeque -/
def k11 : Class := { plain "java/util/ArrayDeque" (some 5) with
  accessFlags := 33
  interfaces := #[8, 9, 10]
  cf := some (fileOf pool11 4 #[.nestMembers #[139, 136, 131]] #[{ accessFlags := 1, nameIndex := 39, descriptorIndex := 46, attributes := #[] }] 33 43 #[278, 280, 282] #[{ accessFlags := 128, nameIndex := 7, descriptorIndex := 8, attributes := #[] }, { accessFlags := 128, nameIndex := 26, descriptorIndex := 23, attributes := #[] }, { accessFlags := 128, nameIndex := 22, descriptorIndex := 23, attributes := #[] }, { accessFlags := 26, nameIndex := 284, descriptorIndex := 23, attributes := #[] }, { accessFlags := 26, nameIndex := 286, descriptorIndex := 287, attributes := #[] }])
  fields := #[{ name := "elements", type := (.array (.object "java/lang/Object")), accessFlags := 128, slot := 0, constantValue := 0 }, { name := "head", type := .int, accessFlags := 128, slot := 1, constantValue := 0 }, { name := "tail", type := .int, accessFlags := 128, slot := 2, constantValue := 0 }, { name := "MAX_ARRAY_SIZE", type := .int, accessFlags := 26, slot := 0, constantValue := 0 }, { name := "serialVersionUID", type := .long, accessFlags := 26, slot := 1, constantValue := 0 }]
  methods := #[k11m0]
  instanceTypes := #[(.array (.object "java/lang/Object")), .int, .int]
  staticTypes := #[.int, .long]
  resolved := Array.replicate 438 none
  statics := none }

/-- the primitive byte -/
def k12 : Class := { plain "byte" none with kind := .primitive 'B', accessFlags := 0x411 }
/-- [B -/
def k13 : Class := { plain "[B" (some 0) with kind := .array 12 .byte, interfaces := #[9, 10], accessFlags := 1041 }

/-- the primitive int -/
def k14 : Class := { plain "int" none with kind := .primitive 'I', accessFlags := 0x411 }
/-- [I -/
def k15 : Class := { plain "[I" (some 0) with kind := .array 14 .int, interfaces := #[9, 10], accessFlags := 1041 }

/-- [Ljava/lang/Object; -/
def k16 : Class := { plain "[Ljava/lang/Object;" (some 0) with kind := .array 0 (.object "java/lang/Object"), interfaces := #[9, 10], accessFlags := 1041 }

def heap : Heap := #[]
def classes : Array Class := #[k0, k1, k2, k3, k4, k5, k6, k7, k8, k9, k10, k11, k12, k13, k14, k15, k16]
def interned : List (Array UInt16 × Addr) := []
def slotsUsed : Nat := 0
def theMethod : MethodId := ⟨1, 2⟩
def args0 : Array Value := #[.long 5, .long 300, .long 1, .long 2, .int 3]
def aboutOver (below : List Frame) : State where
  vm := { classes := classes, interned := interned.toArray }
  heap := heap
  slotsUsed := slotsUsed
  threads := #[{ frames := .invoking theMethod args0 :: below }]
def below0 : List Frame := [.native { method := ⟨0, 0⟩, args := #[] }]
def about1 : State := aboutOver below0
def p0 : Program := .bare "" "" ""
def e0 : Env := launch0.env 0 0 0
theorem w_frames : about1.frames = Frame.invoking theMethod args0 :: below0 := rfl
set_option maxRecDepth 65536 in
theorem w_args : argsFit about1.vm theMethod args0 = true := by decide +kernel
set_option maxRecDepth 65536 in
theorem w_heap : heapFits about1 = true := by decide +kernel
set_option maxRecDepth 65536 in
theorem w_runnable : about1.curStatus? = some .runnable := by decide +kernel
set_option maxRecDepth 65536 in
theorem w_alone : about1.alone = true := by decide +kernel
set_option maxRecDepth 65536 in
theorem w_named : about1.methodNamed? x = some theMethod := by decide +kernel
set_option maxRecDepth 65536 in
theorem w_hears : about1.hears theMethod below0 = true := by decide +kernel
set_option maxRecDepth 65536 in
theorem w_ripe : about1.ripe theMethod args0 below0 = true := by decide +kernel
theorem w_running : about1.status = .running := rfl
set_option maxRecDepth 65536 in
theorem w_room : about1.hasRoom e0.platform room_1 = true :=
  launch0.hasRoom_least _ room_1 (by decide +kernel) (by decide +kernel) (by decide +kernel) (by decide +kernel) (by decide +kernel) (by decide +kernel)
theorem allAtoms_all (ts : List Jvm.Cond) (a : Array Jvm.Value) (st : Jvm.State) : (allAtoms ts).before a st = ts.all (fun c => c.before a st) := by
  induction ts with
  | nil => rfl
  | cons c t ih =>
    show (Jvm.Cond.and c (allAtoms t)).before a st = _
    rw [Jvm.Cond.before_and, ih, List.all_cons]
def words1 : List Jvm.Cond := Jvm.Cond.code x code maxLocals ret :: tables_1
/-- a 'code' word, met by the world's own term for the bytes: nothing is compared byte by byte -/
theorem code_word {y : MethodName} {bytes : ByteArray} {mx : Nat} {rt : Option FieldType} {a : Array Value} {s : State} {m : MethodId} {meth : Method} {c : Code} (h1 : s.methodNamed? y = some m) (h2 : s.vm.method? m = some meth) (h3 : meth.code = some c) (h4 : c.code = bytes)
    (h5 : (c.maxLocals == mx && c.exceptionTable.isEmpty && decide (c.maxStack ≤ mostOperands) && decide (meth.sig.returnType = rt) && !meth.locks && decide (parseMethodDescriptor y.desc = some meth.sig)) = true) : (Jvm.Cond.code y bytes mx rt).before a s = true := by
  simp only [Bool.and_eq_true, beq_iff_eq, Bool.not_eq_true', decide_eq_true_eq] at h5
  obtain ⟨⟨⟨⟨⟨g1, g2⟩, g3⟩, g4⟩, g5⟩, g6⟩ := h5
  simp [Cond.before, Cond.holds, Cond.value, h1, h2, h3, h4, g1, g2, g3, g4, g5, g6]
def isCode : Jvm.Cond → Bool
  | .code _ _ _ _ => true
  | _ => false
theorem all_split {L : List Jvm.Cond} {P : Jvm.Cond → Bool} (h1 : L.all (fun c => isCode c || P c) = true) (h2 : ∀ c ∈ L.filter isCode, P c = true) : L.all P = true := by
  refine List.all_eq_true.mpr fun c hc => ?_
  have h := List.all_eq_true.mp h1 c hc
  rcases Bool.eq_false_or_eq_true (isCode c) with hi | hi
  · exact h2 c (List.mem_filter.mpr ⟨hc, hi⟩)
  · simpa [hi] using h
set_option maxRecDepth 65536 in
theorem w_c0 : (Jvm.Cond.code x code maxLocals ret).before args0 about1 = true := code_word (m := ⟨1, 2⟩) (meth := k1m2) (c := k1c2) (by decide +kernel) rfl rfl rfl (by decide +kernel)
set_option maxRecDepth 65536 in
theorem w_c1 : (Jvm.Cond.code ({ cls := "com/example/linkstage/linkstage/core/DeclarationCache", name := "<init>", desc := "(J)V" } : Jvm.MethodName) prog_35_method_1_code (3 : Nat) (Option.none : Option Jvm.ClassFile.FieldType)).before args0 about1 = true := code_word (m := ⟨2, 0⟩) (meth := k2m0) (c := k2c0) (by decide +kernel) rfl rfl rfl (by decide +kernel)
set_option maxRecDepth 65536 in
theorem w_c2 : (Jvm.Cond.code ({ cls := "java/lang/Object", name := "<init>", desc := "()V" } : Jvm.MethodName) object_method_1_code (1 : Nat) (Option.none : Option Jvm.ClassFile.FieldType)).before args0 about1 = true := code_word (m := ⟨0, 0⟩) (meth := k0m0) (c := k0c0) (by decide +kernel) rfl rfl rfl (by decide +kernel)
set_option maxRecDepth 65536 in
theorem w_c3 : (Jvm.Cond.code ({ cls := "java/util/ArrayDeque", name := "<init>", desc := "()V" } : Jvm.MethodName) jdk_21_method_3_code (1 : Nat) (Option.none : Option Jvm.ClassFile.FieldType)).before args0 about1 = true := code_word (m := ⟨11, 0⟩) (meth := k11m0) (c := k11c0) (by decide +kernel) rfl rfl rfl (by decide +kernel)
set_option maxRecDepth 65536 in
theorem w_c4 : (Jvm.Cond.code ({ cls := "java/util/AbstractCollection", name := "<init>", desc := "()V" } : Jvm.MethodName) jdk_22_method_1_code (1 : Nat) (Option.none : Option Jvm.ClassFile.FieldType)).before args0 about1 = true := code_word (m := ⟨5, 0⟩) (meth := k5m0) (c := k5c0) (by decide +kernel) rfl rfl rfl (by decide +kernel)
set_option maxRecDepth 65536 in
theorem w_c5 : (Jvm.Cond.code ({ cls := "com/example/linkstage/linkstage/core/DeclarationCacheReservePinLaw", name := "pick", desc := "(JIJ)J" } : Jvm.MethodName) method_2_code (6 : Nat) (Option.some Jvm.ClassFile.FieldType.long)).before args0 about1 = true := code_word (m := ⟨1, 1⟩) (meth := k1m1) (c := k1c1) (by decide +kernel) rfl rfl rfl (by decide +kernel)
set_option maxRecDepth 65536 in
theorem w_c6 : (Jvm.Cond.code ({ cls := "com/example/linkstage/linkstage/core/DeclarationCache", name := "reserve", desc := "(J)Z" } : Jvm.MethodName) prog_35_method_3_code (4 : Nat) (Option.some Jvm.ClassFile.FieldType.boolean)).before args0 about1 = true := code_word (m := ⟨2, 1⟩) (meth := k2m1) (c := k2c1) (by decide +kernel) rfl rfl rfl (by decide +kernel)
def codes1 : List Jvm.Cond := [Jvm.Cond.code x code maxLocals ret, Jvm.Cond.code ({ cls := "com/example/linkstage/linkstage/core/DeclarationCache", name := "<init>", desc := "(J)V" } : Jvm.MethodName) prog_35_method_1_code (3 : Nat) (Option.none : Option Jvm.ClassFile.FieldType), Jvm.Cond.code ({ cls := "java/lang/Object", name := "<init>", desc := "()V" } : Jvm.MethodName) object_method_1_code (1 : Nat) (Option.none : Option Jvm.ClassFile.FieldType), Jvm.Cond.code ({ cls := "java/util/ArrayDeque", name := "<init>", desc := "()V" } : Jvm.MethodName) jdk_21_method_3_code (1 : Nat) (Option.none : Option Jvm.ClassFile.FieldType), Jvm.Cond.code ({ cls := "java/util/AbstractCollection", name := "<init>", desc := "()V" } : Jvm.MethodName) jdk_22_method_1_code (1 : Nat) (Option.none : Option Jvm.ClassFile.FieldType), Jvm.Cond.code ({ cls := "com/example/linkstage/linkstage/core/DeclarationCacheReservePinLaw", name := "pick", desc := "(JIJ)J" } : Jvm.MethodName) method_2_code (6 : Nat) (Option.some Jvm.ClassFile.FieldType.long), Jvm.Cond.code ({ cls := "com/example/linkstage/linkstage/core/DeclarationCache", name := "reserve", desc := "(J)Z" } : Jvm.MethodName) prog_35_method_3_code (4 : Nat) (Option.some Jvm.ClassFile.FieldType.boolean)]
set_option maxRecDepth 65536 in
theorem codes_eq : words1.filter isCode = codes1 := rfl
theorem w_codes : ∀ c ∈ words1.filter isCode, c.before args0 about1 = true := by
  rw [codes_eq]
  intro c hc
  simp only [codes1, List.mem_cons, List.not_mem_nil, or_false] at hc
  rcases hc with rfl | rfl | rfl | rfl | rfl | rfl | rfl
  · exact w_c0
  · exact w_c1
  · exact w_c2
  · exact w_c3
  · exact w_c4
  · exact w_c5
  · exact w_c6
set_option maxRecDepth 65536 in
theorem w_t1 : (words1.take 24).all (fun c => isCode c || c.before args0 about1) = true := by decide +kernel
set_option maxRecDepth 65536 in
theorem w_t2 : (words1.drop 24).all (fun c => isCode c || c.before args0 about1) = true := by decide +kernel
theorem w_tables : (allAtoms (Jvm.Cond.code x code maxLocals ret :: tables_1)).before args0 about1 = true := by
  rw [allAtoms_all]
  show words1.all (fun c => c.before args0 about1) = true
  refine all_split ?_ w_codes
  rw [← List.take_append_drop 24 words1, List.all_append, w_t1, w_t2]
  rfl
set_option maxRecDepth 65536 in
theorem w_case : (Jvm.Cond.and given_1 narrow_1).before args0 about1 = true := by decide +kernel
theorem w_applies : (headSpec (Jvm.Cond.code x code maxLocals ret :: tables_1) room_1).applies x e0.platform about1 = true :=
  (Spec.applies_iff w_frames).mpr ⟨w_running, w_runnable, w_alone, w_named, w_hears, w_ripe, w_room, w_tables⟩
theorem atStart : AtStart classFile x code maxLocals ret World_1 tables_1 room_1 Calls_1 rest_1 Pre_1 launch0 p0 e0 about1 theMethod args0 below0 :=
  ⟨lists_1, trivial, launch0.admits_env _ _ _, launch0.least_env, fairChoices_fair.cas, fairChoices_fair.clock, w_frames, w_args, w_heap, w_applies, trivial, trivial, w_case⟩
end start1
theorem witness_1 : WitnessClaimed_1 := ⟨start1.p0, start1.e0, start1.about1, start1.theMethod, start1.args0, start1.below0, start1.atStart⟩
end Jvm.Pilot.@@N@@
