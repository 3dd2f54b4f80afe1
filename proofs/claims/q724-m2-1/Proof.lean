import JvmDerived
import JvmDerived.Pilot.@@N@@Statement
import JvmDerived.Pilot.@@N@@Code
set_option linter.unusedVariables false
set_option linter.unusedSimpArgs false
namespace Jvm.Pilot.@@N@@
open Jvm Jvm.ClassFile Sem Op Lib Jvm.Free Jvm.Stand Jvm.LawKit Jvm.RoadKit Bundle Jvm.Pilot.@@N@@.Jvm.D
section Own
variable {p : Program} {l : Launch} {e : Env} {R : Room} {s : State} {m : MethodId} {args : Array Value} {below : List Frame} {meth : Method} {c : Code} {T : State} {locs : List Loc} {cells slots : Nat}
/-- from U the run comes to an end of which Q holds -/
def OwnEnds (tb : Tables) (e : Env) (below : List Frame) (Q : Outcome → State → Prop) (U : State) : Prop :=
  ∃ s₂ o, Steps tb e below U s₂ ∧ s₂.status = .running ∧ Ended s₂ below o ∧ Q o s₂
abbrev OwnQ (s : State) (K N : Nat) (Q : Option Value → Heap → List Loc → Prop) : Outcome → State → Prop :=
  fun o U => ∃ v L, o = .returned v ∧ Q v U.heap L ∧ FrameEnd s o U L K N
theorem own_via {tb : Tables} {Q : Outcome → State → Prop} {U U' : State} (h : ∀ t, Steps tb e below U' t → Steps tb e below U t) (k : OwnEnds tb e below Q U') : OwnEnds tb e below Q U := by
  obtain ⟨s₂, o, h1, h2⟩ := k
  exact ⟨s₂, o, h _ h1, h2⟩
theorem own_of {tb : Tables} {Q : Outcome → State → Prop} {U U' : State} (h : Steps tb e below U U') (k : OwnEnds tb e below Q U') : OwnEnds tb e below Q U :=
  own_via (fun _ q => h.trans q) k
theorem own_wide {K N : Nat} (X : Stand p l e R s m args below meth c T locs cells slots) (h1 : cells ≤ K) (h2 : slots ≤ N) : Stand p l e R s m args below meth c T locs K N :=
  { X with same := X.same.mono h1 h2 }
theorem own_ret (X : Stand p l e R s m args below meth c T locs cells slots) {Q : Option Value → Heap → List Loc → Prop} {K N : Nat} {v : Option Value} (hv : meth.sig.returnType = none → v = none) (hlk : meth.locks = false) {f : JFrame}
    (st : ∀ fs, (∀ (f : JFrame) (acts : List Action), f.method = m → f.locked = none → f.entered = [] → (doReturn e (T.setTop f) acts v).1 = T.setFrames fs) → Steps p.tables e below (T.setTop f) (T.setFrames fs))
    (hQ : Q v T.heap locs) (hK : cells ≤ K) (hN : slots ≤ N) : OwnEnds p.tables e below (OwnQ s K N Q) (T.setTop f) := by
  obtain ⟨fs, hr, hrun, hended, hW, hsame⟩ := X.leave (v := v) hv hlk
  exact ⟨_, _, st fs hr, hrun, hended, _, _, rfl, hQ, ⟨_, rfl⟩, hW, hsame.mono hK hN⟩
theorem own_retI (X : Stand p l e R s m args below meth c T locs cells slots) (hx : p.tables.exec = Jvm.exec) {Q : Option Value → Heap → List Loc → Prop} {K N pc : Nat} {Ls : Array Slot} {z : Int32} {rest : List Value} (hret : meth.sig.returnType = some .int) (hlk : meth.locks = false) (hd : decode c.code pc = .ok (.ireturn, 1))
    (hQ : Q (some (.int z)) T.heap locs) (hK : cells ≤ K) (hN : slots ≤ N) : OwnEnds p.tables e below (OwnQ s K N Q) (T.setTop (mkF m pc Ls (.int z :: rest))) :=
  own_ret X (fun h => by rw [hret] at h; cases h) hlk (fun fs hl => retOut X hx hret rfl (Or.inl ⟨rfl, Or.inl rfl, z, rfl⟩) hd hl) hQ hK hN
theorem own_retN (X : Stand p l e R s m args below meth c T locs cells slots) (hx : p.tables.exec = Jvm.exec) {Q : Option Value → Heap → List Loc → Prop} {K N pc : Nat} {Ls : Array Slot} {z : Int32} {t : FieldType} {rest : List Value} (hret : meth.sig.returnType = some t) (ht : t = .boolean ∨ t = .byte ∨ t = .char ∨ t = .short) (hlk : meth.locks = false) (hd : decode c.code pc = .ok (.ireturn, 1))
    (hQ : Q (some (.int (nar t z))) T.heap locs) (hK : cells ≤ K) (hN : slots ≤ N) : OwnEnds p.tables e below (OwnQ s K N Q) (T.setTop (mkF m pc Ls (.int z :: rest))) :=
  own_ret X (fun h => by rw [hret] at h; cases h) hlk (fun fs hl => retN X hx hret ht hd hl) hQ hK hN
theorem own_retJ (X : Stand p l e R s m args below meth c T locs cells slots) (hx : p.tables.exec = Jvm.exec) {Q : Option Value → Heap → List Loc → Prop} {K N pc : Nat} {Ls : Array Slot} {z : Int64} {rest : List Value} (hret : meth.sig.returnType = some .long) (hlk : meth.locks = false) (hd : decode c.code pc = .ok (.lreturn, 1))
    (hQ : Q (some (.long z)) T.heap locs) (hK : cells ≤ K) (hN : slots ≤ N) : OwnEnds p.tables e below (OwnQ s K N Q) (T.setTop (mkF m pc Ls (.long z :: rest))) :=
  own_ret X (fun h => by rw [hret] at h; cases h) hlk (fun fs hl => retOut X hx hret rfl (Or.inr (Or.inl ⟨rfl, rfl, z, rfl⟩)) hd hl) hQ hK hN
theorem own_retA (X : Stand p l e R s m args below meth c T locs cells slots) (hx : p.tables.exec = Jvm.exec) {Q : Option Value → Heap → List Loc → Prop} {K N pc : Nat} {Ls : Array Slot} {w : Value} {t : FieldType} {rest : List Value} (hret : meth.sig.returnType = some t) (ht : t.isReference = true) (hw : w.isRef = true) (hlk : meth.locks = false) (hd : decode c.code pc = .ok (.areturn, 1))
    (hQ : Q (some w) T.heap locs) (hK : cells ≤ K) (hN : slots ≤ N) : OwnEnds p.tables e below (OwnQ s K N Q) (T.setTop (mkF m pc Ls (w :: rest))) :=
  own_ret X (fun h => by rw [hret] at h; cases h) hlk (fun fs hl => retOut X hx hret (by cases t <;> first | (cases ht; done) | (cases w <;> first | rfl | (cases hw; done))) (Or.inr (Or.inr (Or.inr (Or.inr ⟨rfl, ht, hw⟩)))) hd hl) hQ hK hN
theorem own_retV (X : Stand p l e R s m args below meth c T locs cells slots) (hx : p.tables.exec = Jvm.exec) {Q : Option Value → Heap → List Loc → Prop} {K N pc : Nat} {Ls : Array Slot} (hret : meth.sig.returnType = none) (hlk : meth.locks = false) (hd : decode c.code pc = .ok (.return_, 1))
    (hQ : Q none T.heap locs) (hK : cells ≤ K) (hN : slots ≤ N) : OwnEnds p.tables e below (OwnQ s K N Q) (T.setTop (mkF m pc Ls [])) :=
  own_ret X (fun _ => rfl) hlk (fun fs hl => X.returnOut hx hret hd hl) hQ hK hN
theorem own_lc_lt_t {x y : Int64} (h : x < y) : ifCond.holds .lt (lcmpW x y) = true ∧ ifCond.holds .ge (lcmpW x y) = false := by
  have q : lcmpW x y < 0 := by rw [lcW, lc_lt]; exact h
  exact ⟨(if0 _ _).trans (tlt q).1, (if0 _ _).trans (tlt q).2.1⟩
theorem own_lc_lt_f {x y : Int64} (h : ¬ (x < y)) : ifCond.holds .lt (lcmpW x y) = false ∧ ifCond.holds .ge (lcmpW x y) = true := by
  have q : ¬ lcmpW x y < 0 := by rw [lcW, lc_lt]; exact h
  exact ⟨(if0 _ _).trans (flt q).1, (if0 _ _).trans (flt q).2.1⟩
theorem own_lc_gt_t {x y : Int64} (h : y < x) : ifCond.holds .gt (lcmpW x y) = true ∧ ifCond.holds .le (lcmpW x y) = false := by
  have q : 0 < lcmpW x y := by rw [lcW, lc_gt]; exact h
  exact ⟨(if0 _ _).trans (tlt q).2.2.1, (if0 _ _).trans (tlt q).2.2.2⟩
theorem own_lc_gt_f {x y : Int64} (h : ¬ (y < x)) : ifCond.holds .gt (lcmpW x y) = false ∧ ifCond.holds .le (lcmpW x y) = true := by
  have q : ¬ 0 < lcmpW x y := by rw [lcW, lc_gt]; exact h
  exact ⟨(if0 _ _).trans (flt q).2.2.1, (if0 _ _).trans (flt q).2.2.2⟩
theorem own_lc_eq_t {x y : Int64} (h : x = y) : ifCond.holds .eq (lcmpW x y) = true ∧ ifCond.holds .ne (lcmpW x y) = false := by
  have q : lcmpW x y = 0 := by rw [lcW, lc_eq]; exact h
  exact ⟨(if0 _ _).trans (teq q).1, (if0 _ _).trans (teq q).2⟩
theorem own_lc_eq_f {x y : Int64} (h : ¬ (x = y)) : ifCond.holds .eq (lcmpW x y) = false ∧ ifCond.holds .ne (lcmpW x y) = true := by
  have q : ¬ lcmpW x y = 0 := by rw [lcW, lc_eq]; exact h
  exact ⟨(if0 _ _).trans (feq q).1, (if0 _ _).trans (feq q).2⟩
theorem own_lrem {g : JFrame} {target : State} (X : Stand p l e R s m args below meth c T locs cells slots) (hx : p.tables.exec = Jvm.exec) (hg : g.method = m) {x y : Int64} {rest : List Value} (hd : decode c.code g.pc = .ok (.lrem, 1)) (hs : g.stack = .long y :: .long x :: rest) (hy : y ≠ 0)
    (hr : Steps p.tables e below (T.setTop { g with pc := g.pc + 1, stack := .long (x % y) :: rest }) target) : Steps p.tables e below (T.setTop g) target := by
  have q : x - x / y * y = x % y := lrem_mod x y
  exact XS.lrem X.here hx hg hd hs hy (by rw [q]; exact hr)
theorem own_cat {w : Value} (h : w.isRef = true) : w.category = 1 := by rcases ref_cases h with rfl | ⟨a, rfl⟩ <;> rfl
theorem own_narR {w : Value} {t : FieldType} (ht : t.isReference = true) (h : w.isRef = true) : narrow t w = w := by
  cases t <;> first | (cases ht; done) | (rcases ref_cases h with rfl | ⟨a, rfl⟩ <;> rfl)
theorem own_fitR {w : Value} {t : FieldType} (ht : t.isReference = true) (h : w.isRef = true) : fits t w = true := by
  cases t <;> first | (cases ht; done) | (rcases ref_cases h with rfl | ⟨a, rfl⟩ <;> rfl)
theorem own_narb {c : Prop} [Decidable c] {r : Int32} (h : r = if c then 0 else 1) : nar .boolean r = r := by
  by_cases q : c
  · rw [if_pos q] at h; rw [h]; rfl
  · rw [if_neg q] at h; rw [h]; rfl
/-! arrays as lists of values -/
def AL (Z : State) (h : Heap) (a : Addr) (ty : FieldType) (xs : List Value) : Prop := ∃ c : Cell, Arr Z h a c ty ∧ c.slots.toList = xs ∧ xs.length < 2147483648
variable {Z : State} {h h' : Heap} {a b : Addr} {ty : FieldType} {xs : List Value} {sl : Nat} {v : Value} {ws : List Addr} {C n d : String}
theorem AL.lt (F : AL Z h a ty xs) : a < h.size := by obtain ⟨c, A, -⟩ := F; exact A.lt
theorem AL.ext (F : AL Z h a ty xs) (E : Ext h h') : AL Z h' a ty xs := by obtain ⟨c, A, r⟩ := F; exact ⟨c, A.ext E, r⟩
theorem AL.other (F : AL Z h a ty xs) (W : Wr h h' b sl v) (q : a ≠ b) : AL Z h' a ty xs := by obtain ⟨c, A, r⟩ := F; exact ⟨c, A.other W q, r⟩
theorem AL.keep (F : AL Z h a ty xs) (K : Keep h h' ws) (q : a ∉ ws) : AL Z h' a ty xs := by obtain ⟨c, A, r⟩ := F; exact ⟨c, ⟨K.2.1 a c A.1 q, A.2⟩, r⟩
theorem AL.new {k : ClassId} {z : Int32} (A : Arr Z h a (newA k ty z) ty) (q : ¬ z < 0) {i : Nat} (hi : z.toNatClampNeg = i) : AL Z h a ty (List.replicate i (defaultValue ty)) := by
  refine ⟨_, A, ?_, ?_⟩
  · simp [newA, hi]
  · rw [List.length_replicate, ← hi]; exact (back32 q).2
theorem AL.ne {C : String} (F : AL Z h a ty xs) (G : Exa Z h b C) {a0 : Array Value} {k : Nat} (wi : (Cond.instantiable C k).before a0 Z = true) : b ≠ a := by
  obtain ⟨c, A, -⟩ := F; exact ne_arr G wi A
theorem own_idx {cl : Cell} (hc : cl.slots.toList = xs) {j : Int32} {i : Nat} (hj : j.toInt = i) (hi : i < xs.length) : ¬ (j < 0 ∨ cl.slots.size ≤ j.toNatClampNeg) ∧ j.toNatClampNeg = i := by
  have h1 : j.toNatClampNeg = i := by simp only [Int32.toNatClampNeg, hj]; rfl
  have h2 : cl.slots.size = xs.length := by rw [← hc]; simp
  refine ⟨fun q => ?_, h1⟩
  rcases q with q | q
  · rw [Int32.lt_iff_toInt_lt, hj] at q; have e0 : (0 : Int32).toInt = 0 := rfl; omega
  · omega
theorem own_at {cl : Cell} (hc : cl.slots.toList = xs) {i : Nat} : cl.slots[i]? = xs[i]? := by rw [← hc]; simp
theorem AL.set {cl : Cell} (A : Arr Z h a cl ty) (hc : cl.slots.toList = xs) (hl : xs.length < 2147483648) {i : Nat} (W : Wr h h' a i v) : AL Z h' a ty (xs.set i v) := by
  refine ⟨_, A.same W, ?_, by simpa using hl⟩
  simp [Cell.setSlot, hc]
theorem own_stI (X : Stand p l e R s m args below meth c T locs cells slots) (hx : p.tables.exec = Jvm.exec) (hZ : Z.Warmed39 s.vm) (eT : T.heap = h) (A : AL Z h a .int xs) {j x : Int32} (i : Nat) (hj : j.toInt = i) (hi : i < xs.length) {g : JFrame} (hg : g.method = m) {rest : List Value} (hs : g.stack = .int x :: .int j :: .ref a :: rest) (hd : decode c.code g.pc = .ok (.iastore, 1)) :
    ∃ T' h', Stand p l e R s m args below meth c T' (locs ++ [⟨a, i⟩]) cells slots ∧ T'.heap = h' ∧ Wr h h' a i (.int x) ∧ AL Z h' a .int (xs.set i (.int x)) ∧ ∀ target, Steps p.tables e below (T'.setTop { g with pc := g.pc + 1, stack := rest }) target → Steps p.tables e below (T.setTop g) target := by
  obtain ⟨cl, A1, A2, A3⟩ := A
  obtain ⟨q1, q2⟩ := own_idx A2 hj hi
  obtain ⟨T', h', X', e', W, st⟩ := stI X hx hZ eT A1 q1 hg hs hd
  rw [q2] at X' W
  exact ⟨T', h', X', e', W, AL.set A1 A2 A3 W, st⟩
theorem own_stJ (X : Stand p l e R s m args below meth c T locs cells slots) (hx : p.tables.exec = Jvm.exec) (hZ : Z.Warmed39 s.vm) (eT : T.heap = h) (A : AL Z h a .long xs) {j : Int32} {x : Int64} (i : Nat) (hj : j.toInt = i) (hi : i < xs.length) {g : JFrame} (hg : g.method = m) {rest : List Value} (hs : g.stack = .long x :: .int j :: .ref a :: rest) (hd : decode c.code g.pc = .ok (.lastore, 1)) :
    ∃ T' h', Stand p l e R s m args below meth c T' (locs ++ [⟨a, i⟩]) cells slots ∧ T'.heap = h' ∧ Wr h h' a i (.long x) ∧ AL Z h' a .long (xs.set i (.long x)) ∧ ∀ target, Steps p.tables e below (T'.setTop { g with pc := g.pc + 1, stack := rest }) target → Steps p.tables e below (T.setTop g) target := by
  obtain ⟨cl, A1, A2, A3⟩ := A
  obtain ⟨q1, q2⟩ := own_idx A2 hj hi
  obtain ⟨T', h', X', e', W, st⟩ := stJ X hx hZ eT A1 q1 hg hs hd
  rw [q2] at X' W
  exact ⟨T', h', X', e', W, AL.set A1 A2 A3 W, st⟩
theorem own_stB (X : Stand p l e R s m args below meth c T locs cells slots) (hx : p.tables.exec = Jvm.exec) (hZ : Z.Warmed39 s.vm) (eT : T.heap = h) (A : AL Z h a .byte xs) {j x : Int32} (i : Nat) (hj : j.toInt = i) (hi : i < xs.length) {g : JFrame} (hg : g.method = m) {rest : List Value} (hs : g.stack = .int x :: .int j :: .ref a :: rest) (hd : decode c.code g.pc = .ok (.bastore, 1)) :
    ∃ T' h', Stand p l e R s m args below meth c T' (locs ++ [⟨a, i⟩]) cells slots ∧ T'.heap = h' ∧ Wr h h' a i (.int (nar .byte x)) ∧ AL Z h' a .byte (xs.set i (.int (nar .byte x))) ∧ ∀ target, Steps p.tables e below (T'.setTop { g with pc := g.pc + 1, stack := rest }) target → Steps p.tables e below (T.setTop g) target := by
  obtain ⟨cl, A1, A2, A3⟩ := A
  obtain ⟨q1, q2⟩ := own_idx A2 hj hi
  obtain ⟨T', h', X', e', W, st⟩ := stB X hx hZ eT A1 q1 hg hs hd
  rw [q2] at X' W
  exact ⟨T', h', X', e', W, AL.set A1 A2 A3 W, st⟩
theorem own_stZ (X : Stand p l e R s m args below meth c T locs cells slots) (hx : p.tables.exec = Jvm.exec) (hZ : Z.Warmed39 s.vm) (eT : T.heap = h) (A : AL Z h a .boolean xs) {j x : Int32} (i : Nat) (hj : j.toInt = i) (hi : i < xs.length) {g : JFrame} (hg : g.method = m) {rest : List Value} (hs : g.stack = .int x :: .int j :: .ref a :: rest) (hd : decode c.code g.pc = .ok (.bastore, 1)) :
    ∃ T' h', Stand p l e R s m args below meth c T' (locs ++ [⟨a, i⟩]) cells slots ∧ T'.heap = h' ∧ Wr h h' a i (.int (nar .boolean x)) ∧ AL Z h' a .boolean (xs.set i (.int (nar .boolean x))) ∧ ∀ target, Steps p.tables e below (T'.setTop { g with pc := g.pc + 1, stack := rest }) target → Steps p.tables e below (T.setTop g) target := by
  obtain ⟨cl, A1, A2, A3⟩ := A
  obtain ⟨q1, q2⟩ := own_idx A2 hj hi
  obtain ⟨T', h', X', e', W, st⟩ := stZ X hx hZ eT A1 q1 hg hs hd
  rw [q2] at X' W
  exact ⟨T', h', X', e', W, AL.set A1 A2 A3 W, st⟩
theorem own_stC (X : Stand p l e R s m args below meth c T locs cells slots) (hx : p.tables.exec = Jvm.exec) (hZ : Z.Warmed39 s.vm) (eT : T.heap = h) (A : AL Z h a .char xs) {j x : Int32} (i : Nat) (hj : j.toInt = i) (hi : i < xs.length) {g : JFrame} (hg : g.method = m) {rest : List Value} (hs : g.stack = .int x :: .int j :: .ref a :: rest) (hd : decode c.code g.pc = .ok (.castore, 1)) :
    ∃ T' h', Stand p l e R s m args below meth c T' (locs ++ [⟨a, i⟩]) cells slots ∧ T'.heap = h' ∧ Wr h h' a i (.int (nar .char x)) ∧ AL Z h' a .char (xs.set i (.int (nar .char x))) ∧ ∀ target, Steps p.tables e below (T'.setTop { g with pc := g.pc + 1, stack := rest }) target → Steps p.tables e below (T.setTop g) target := by
  obtain ⟨cl, A1, A2, A3⟩ := A
  obtain ⟨q1, q2⟩ := own_idx A2 hj hi
  obtain ⟨T', h', X', e', W, st⟩ := stC X hx hZ eT A1 q1 hg hs hd
  rw [q2] at X' W
  exact ⟨T', h', X', e', W, AL.set A1 A2 A3 W, st⟩
theorem own_lt_len {i : Nat} (hv : xs[i]? = some v) : i < xs.length := (List.getElem?_eq_some_iff.mp hv).1
theorem own_ldI (X : Stand p l e R s m args below meth c T locs cells slots) (hx : p.tables.exec = Jvm.exec) (hZ : Z.Warmed39 s.vm) (eT : T.heap = h) (A : AL Z h a .int xs) {j : Int32} (i : Nat) (hj : j.toInt = i) (hv : xs[i]? = some v) {g : JFrame} (hg : g.method = m) {rest : List Value} (hs : g.stack = .int j :: .ref a :: rest) (hd : decode c.code g.pc = .ok (.iaload, 1)) :
    ∀ target, Steps p.tables e below (T.setTop { g with pc := g.pc + 1, stack := v :: rest }) target → Steps p.tables e below (T.setTop g) target := by
  obtain ⟨cl, A1, A2, A3⟩ := A
  obtain ⟨q1, q2⟩ := own_idx A2 hj (own_lt_len hv)
  exact X.iaload hx (by rw [eT]; exact A1.1) (State.isArrayOf_alike hZ.alike A1.2.1) A1.2.2 q1 (by rw [q2, own_at A2]; exact hv) hg hs hd
theorem own_ldJ (X : Stand p l e R s m args below meth c T locs cells slots) (hx : p.tables.exec = Jvm.exec) (hZ : Z.Warmed39 s.vm) (eT : T.heap = h) (A : AL Z h a .long xs) {j : Int32} (i : Nat) (hj : j.toInt = i) (hv : xs[i]? = some v) {g : JFrame} (hg : g.method = m) {rest : List Value} (hs : g.stack = .int j :: .ref a :: rest) (hd : decode c.code g.pc = .ok (.laload, 1)) :
    ∀ target, Steps p.tables e below (T.setTop { g with pc := g.pc + 1, stack := v :: rest }) target → Steps p.tables e below (T.setTop g) target := by
  obtain ⟨cl, A1, A2, A3⟩ := A
  obtain ⟨q1, q2⟩ := own_idx A2 hj (own_lt_len hv)
  exact X.laload hx (by rw [eT]; exact A1.1) (State.isArrayOf_alike hZ.alike A1.2.1) A1.2.2 q1 (by rw [q2, own_at A2]; exact hv) hg hs hd
theorem own_ldB (X : Stand p l e R s m args below meth c T locs cells slots) (hx : p.tables.exec = Jvm.exec) (hZ : Z.Warmed39 s.vm) (eT : T.heap = h) (A : AL Z h a .byte xs) {j : Int32} (i : Nat) (hj : j.toInt = i) (hv : xs[i]? = some v) {g : JFrame} (hg : g.method = m) {rest : List Value} (hs : g.stack = .int j :: .ref a :: rest) (hd : decode c.code g.pc = .ok (.baload, 1)) :
    ∀ target, Steps p.tables e below (T.setTop { g with pc := g.pc + 1, stack := v :: rest }) target → Steps p.tables e below (T.setTop g) target := by
  obtain ⟨cl, A1, A2, A3⟩ := A
  obtain ⟨q1, q2⟩ := own_idx A2 hj (own_lt_len hv)
  exact X.baloadBytes hx (by rw [eT]; exact A1.1) (State.isArrayOf_alike hZ.alike A1.2.1) A1.2.2 q1 (by rw [q2, own_at A2]; exact hv) hg hs hd
theorem own_ldZ (X : Stand p l e R s m args below meth c T locs cells slots) (hx : p.tables.exec = Jvm.exec) (hZ : Z.Warmed39 s.vm) (eT : T.heap = h) (A : AL Z h a .boolean xs) {j : Int32} (i : Nat) (hj : j.toInt = i) (hv : xs[i]? = some v) {g : JFrame} (hg : g.method = m) {rest : List Value} (hs : g.stack = .int j :: .ref a :: rest) (hd : decode c.code g.pc = .ok (.baload, 1)) :
    ∀ target, Steps p.tables e below (T.setTop { g with pc := g.pc + 1, stack := v :: rest }) target → Steps p.tables e below (T.setTop g) target := by
  obtain ⟨cl, A1, A2, A3⟩ := A
  obtain ⟨q1, q2⟩ := own_idx A2 hj (own_lt_len hv)
  exact X.baloadBooleans hx (by rw [eT]; exact A1.1) (State.isArrayOf_alike hZ.alike A1.2.1) A1.2.2 q1 (by rw [q2, own_at A2]; exact hv) hg hs hd
theorem own_ldC (X : Stand p l e R s m args below meth c T locs cells slots) (hx : p.tables.exec = Jvm.exec) (hZ : Z.Warmed39 s.vm) (eT : T.heap = h) (A : AL Z h a .char xs) {j : Int32} (i : Nat) (hj : j.toInt = i) (hv : xs[i]? = some v) {g : JFrame} (hg : g.method = m) {rest : List Value} (hs : g.stack = .int j :: .ref a :: rest) (hd : decode c.code g.pc = .ok (.caload, 1)) :
    ∀ target, Steps p.tables e below (T.setTop { g with pc := g.pc + 1, stack := v :: rest }) target → Steps p.tables e below (T.setTop g) target := by
  obtain ⟨cl, A1, A2, A3⟩ := A
  obtain ⟨q1, q2⟩ := own_idx A2 hj (own_lt_len hv)
  exact X.caload hx (by rw [eT]; exact A1.1) (State.isArrayOf_alike hZ.alike A1.2.1) A1.2.2 q1 (by rw [q2, own_at A2]; exact hv) hg hs hd
theorem own_ldA (X : Stand p l e R s m args below meth c T locs cells slots) (hx : p.tables.exec = Jvm.exec) (hZ : Z.Warmed39 s.vm) (eT : T.heap = h) (A : AL Z h a ty xs) (hty : ty.isReference = true) {j : Int32} (i : Nat) (hj : j.toInt = i) (hv : xs[i]? = some v) {g : JFrame} (hg : g.method = m) {rest : List Value} (hs : g.stack = .int j :: .ref a :: rest) (hd : decode c.code g.pc = .ok (.aaload, 1)) :
    ∀ target, Steps p.tables e below (T.setTop { g with pc := g.pc + 1, stack := v :: rest }) target → Steps p.tables e below (T.setTop g) target := by
  obtain ⟨cl, A1, A2, A3⟩ := A
  obtain ⟨q1, q2⟩ := own_idx A2 hj (own_lt_len hv)
  exact X.aaload hx (by rw [eT]; exact A1.1) (State.isArrayOf_alike hZ.alike A1.2.1) hty A1.2.2 q1 (by rw [q2, own_at A2]; exact hv) hg hs hd
theorem own_len (X : Stand p l e R s m args below meth c T locs cells slots) (hx : p.tables.exec = Jvm.exec) (hZ : Z.Warmed39 s.vm) (eT : T.heap = h) (A : AL Z h a ty xs) {z : Int32} (hz : z.toInt = xs.length) {g : JFrame} (hg : g.method = m) {rest : List Value} (hs : g.stack = .ref a :: rest) (hd : decode c.code g.pc = .ok (.arraylength, 1)) :
    ∀ target, Steps p.tables e below (T.setTop { g with pc := g.pc + 1, stack := .int z :: rest }) target → Steps p.tables e below (T.setTop g) target := by
  obtain ⟨cl, A1, A2, A3⟩ := A
  have h2 : cl.slots.size = xs.length := by rw [← A2]; simp
  have e1 : cl.slots.size.toInt32 = z := Int32.toInt_inj.mp (by rw [len_toInt (by omega), hz, h2])
  intro target k
  exact X.arraylength hx (by rw [eT]; exact A1.1) (State.isArrayOf_alike hZ.alike A1.2.1) hg hs hd target (by rw [e1]; exact k)
end Own

theorem own_nar1 : nar .boolean (1 : Int32) = 1 := rfl
theorem own_nar0 : nar .boolean (0 : Int32) = 0 := rfl
def own_sel (i : Int32) (s0 s1 s2 s3 s4 s5 s6 s7 s8 : Addr) : Addr := if i = 0 then s0 else if i = 1 then s1 else if i = 2 then s2 else if i = 3 then s3 else if i = 4 then s4 else if i = 5 then s5 else if i = 6 then s6 else if i = 7 then s7 else s8
def own_opc (i : Int32) : Int32 := if i = 0 then 180 else if i = 1 then 178 else if i = 2 then 181 else if i = 3 then 179 else if i = 4 then 182 else if i = 5 then 184 else if i = 6 then 183 else if i = 7 then 183 else 185
def own_isf (w : Int32) : Int32 := if w < 178 then 0 else if 181 < w then 0 else 1
theorem own_iv (x : Int32) : ∃ k : Fin 9, (x &&& 2147483647) % 9 = Int32.ofNat k.val := by
  have h1 := c_and x 2147483647 (by decide)
  have h2 := (c_irem (x &&& 2147483647) 9 9 rfl).1 h1.1
  refine ⟨⟨((x &&& 2147483647) % 9).toInt.toNat, by omega⟩, Int32.toInt_inj.mp ?_⟩
  rw [Int32.toInt_ofNat_of_lt (by show ((x &&& 2147483647) % 9).toInt.toNat < _; omega)]
  show _ = (((x &&& 2147483647) % 9).toInt.toNat : Int)
  omega
theorem own_p : ∀ k : Fin 9, own_isf (own_opc (Int32.ofNat k.val)) = if Int32.ofNat k.val < 4 then 1 else 0 := by decide +kernel
theorem own_main {x i ex : Int32} (h : i = (x &&& 2147483647) % 9) (he : ex = if i < 4 then 1 else 0) : own_isf (own_opc i) = ex := by
  obtain ⟨k, hk⟩ := own_iv x
  rw [hk] at h; subst h; rw [he]; exact own_p k
theorem own_eqF {t : Term} {args : Array Value} {s : State} {x : Addr} {C n d : String} {k : Int32} (ht : t.eval args s none [] s = some (.ref x)) (h : (Jvm.Cond.eq (Jvm.Term.field t C n d) (Jvm.Term.int k)).value args s none s [] = some true) : Fld s s.heap x C n d (.int k) := by
  refine Fld.start ?_
  obtain ⟨u, w, e1, e2, k1, k2⟩ := cmp_v (Or.inl h)
  have e3 : w = .int k := Option.some.inj (e2.symm.trans (Term.int_eval k))
  subst e3
  obtain ⟨z, rfl⟩ := k2
  have e4 : z = k := gotT (Cond.eq_ints e1 e2) h
  rw [fld_at ht] at e1
  rw [e1, e4]
theorem own_all {P : Addr → Int32 → Prop} {s0 s1 s2 s3 s4 s5 s6 s7 s8 : Addr} (h0 : P s0 180) (h1 : P s1 178) (h2 : P s2 181) (h3 : P s3 179) (h4 : P s4 182) (h5 : P s5 184) (h6 : P s6 183) (h7 : P s7 183) (h8 : P s8 185) (i : Int32) : P (own_sel i s0 s1 s2 s3 s4 s5 s6 s7 s8) (own_opc i) := by
  unfold own_sel own_opc
  by_cases q0 : i = 0
  · simp only [if_pos q0]; exact h0
  simp only [if_neg q0]
  by_cases q1 : i = 1
  · simp only [if_pos q1]; exact h1
  simp only [if_neg q1]
  by_cases q2 : i = 2
  · simp only [if_pos q2]; exact h2
  simp only [if_neg q2]
  by_cases q3 : i = 3
  · simp only [if_pos q3]; exact h3
  simp only [if_neg q3]
  by_cases q4 : i = 4
  · simp only [if_pos q4]; exact h4
  simp only [if_neg q4]
  by_cases q5 : i = 5
  · simp only [if_pos q5]; exact h5
  simp only [if_neg q5]
  by_cases q6 : i = 6
  · simp only [if_pos q6]; exact h6
  simp only [if_neg q6]
  by_cases q7 : i = 7
  · simp only [if_pos q7]; exact h7
  simp only [if_neg q7]
  exact h8
theorem d1_0 : decode method_2_code 0 = .ok (.iload_n 0, 1) := by decide +kernel
theorem d1_1 : decode method_2_code 1 = .ok (.ifCond .ne 7, 3) := by decide +kernel
theorem d1_4 : decode method_2_code 4 = .ok (.getstatic 7, 3) := by decide +kernel
theorem d1_7 : decode method_2_code 7 = .ok (.areturn, 1) := by decide +kernel
theorem d1_8 : decode method_2_code 8 = .ok (.iload_n 0, 1) := by decide +kernel
theorem d1_9 : decode method_2_code 9 = .ok (.iconst 1, 1) := by decide +kernel
theorem d1_10 : decode method_2_code 10 = .ok (.if_icmp .ne 7, 3) := by decide +kernel
theorem d1_13 : decode method_2_code 13 = .ok (.getstatic 13, 3) := by decide +kernel
theorem d1_16 : decode method_2_code 16 = .ok (.areturn, 1) := by decide +kernel
theorem d1_17 : decode method_2_code 17 = .ok (.iload_n 0, 1) := by decide +kernel
theorem d1_18 : decode method_2_code 18 = .ok (.iconst 2, 1) := by decide +kernel
theorem d1_19 : decode method_2_code 19 = .ok (.if_icmp .ne 7, 3) := by decide +kernel
theorem d1_22 : decode method_2_code 22 = .ok (.getstatic 16, 3) := by decide +kernel
theorem d1_25 : decode method_2_code 25 = .ok (.areturn, 1) := by decide +kernel
theorem d1_26 : decode method_2_code 26 = .ok (.iload_n 0, 1) := by decide +kernel
theorem d1_27 : decode method_2_code 27 = .ok (.iconst 3, 1) := by decide +kernel
theorem d1_28 : decode method_2_code 28 = .ok (.if_icmp .ne 7, 3) := by decide +kernel
theorem d1_31 : decode method_2_code 31 = .ok (.getstatic 19, 3) := by decide +kernel
theorem d1_34 : decode method_2_code 34 = .ok (.areturn, 1) := by decide +kernel
theorem d1_35 : decode method_2_code 35 = .ok (.iload_n 0, 1) := by decide +kernel
theorem d1_36 : decode method_2_code 36 = .ok (.iconst 4, 1) := by decide +kernel
theorem d1_37 : decode method_2_code 37 = .ok (.if_icmp .ne 7, 3) := by decide +kernel
theorem d1_40 : decode method_2_code 40 = .ok (.getstatic 22, 3) := by decide +kernel
theorem d1_43 : decode method_2_code 43 = .ok (.areturn, 1) := by decide +kernel
theorem d1_44 : decode method_2_code 44 = .ok (.iload_n 0, 1) := by decide +kernel
theorem d1_45 : decode method_2_code 45 = .ok (.iconst 5, 1) := by decide +kernel
theorem d1_46 : decode method_2_code 46 = .ok (.if_icmp .ne 7, 3) := by decide +kernel
theorem d1_49 : decode method_2_code 49 = .ok (.getstatic 25, 3) := by decide +kernel
theorem d1_52 : decode method_2_code 52 = .ok (.areturn, 1) := by decide +kernel
theorem d1_53 : decode method_2_code 53 = .ok (.iload_n 0, 1) := by decide +kernel
theorem d1_54 : decode method_2_code 54 = .ok (.bipush 6, 2) := by decide +kernel
theorem d1_56 : decode method_2_code 56 = .ok (.if_icmp .ne 7, 3) := by decide +kernel
theorem d1_59 : decode method_2_code 59 = .ok (.getstatic 28, 3) := by decide +kernel
theorem d1_62 : decode method_2_code 62 = .ok (.areturn, 1) := by decide +kernel
theorem d1_63 : decode method_2_code 63 = .ok (.iload_n 0, 1) := by decide +kernel
theorem d1_64 : decode method_2_code 64 = .ok (.bipush 7, 2) := by decide +kernel
theorem d1_66 : decode method_2_code 66 = .ok (.if_icmp .ne 7, 3) := by decide +kernel
theorem d1_69 : decode method_2_code 69 = .ok (.getstatic 31, 3) := by decide +kernel
theorem d1_72 : decode method_2_code 72 = .ok (.areturn, 1) := by decide +kernel
theorem d1_73 : decode method_2_code 73 = .ok (.getstatic 34, 3) := by decide +kernel
theorem d1_76 : decode method_2_code 76 = .ok (.areturn, 1) := by decide +kernel
theorem pn_0 : plainName "com/example/linkstage/linkstage/classfile/ReferenceKindIsFieldPinLaw" = true := by first | (simp [plainName, overriddenIn]; done) | decide +kernel
theorem ef_1 (m : MethodId) (p0 : Int32) : entryFrame m #[(.int p0)] 1 = mkF m 0 #[.val (.int p0)] [] := by first | (simp [entryFrame, mkF, argsToLocals, Value.category]; done) | rfl
def Q1 (Z : State) (p0 : Int32) (s0 : Addr) (s1 : Addr) (s2 : Addr) (s3 : Addr) (s4 : Addr) (s5 : Addr) (s6 : Addr) (s7 : Addr) (s8 : Addr) (h0 : Heap) (n0 : Nat) (v : Option Value) (h : Heap) (L : List Loc) : Prop := v = some (.ref (own_sel p0 s0 s1 s2 s3 s4 s5 s6 s7 s8)) ∧ Fr n0 L ∧ h = h0
set_option maxRecDepth 65536 in
set_option maxHeartbeats 40000000 in
theorem rm1 (l : Launch) (Z : State) (aw : Array Value) (hw : ∀ d ∈ tables_1, d.before aw Z = true) (ws : List Jvm.Cond) (p0 : Int32) (s0 : Addr) (s1 : Addr) (s2 : Addr) (s3 : Addr) (s4 : Addr) (s5 : Addr) (s6 : Addr) (s7 : Addr) (s8 : Addr) (h0 : Heap) (n0 : Nat) (Z0 : n0 ≤ h0.size) (S_0 : Sta Z Z.heap "com/example/linkstage/linkstage/classfile/ReferenceKind" "GET_FIELD" "Lcom/example/linkstage/linkstage/classfile/ReferenceKind;" (.ref s0)) (S_1 : Sta Z Z.heap "com/example/linkstage/linkstage/classfile/ReferenceKind" "GET_STATIC" "Lcom/example/linkstage/linkstage/classfile/ReferenceKind;" (.ref s1)) (S_2 : Sta Z Z.heap "com/example/linkstage/linkstage/classfile/ReferenceKind" "PUT_FIELD" "Lcom/example/linkstage/linkstage/classfile/ReferenceKind;" (.ref s2)) (S_3 : Sta Z Z.heap "com/example/linkstage/linkstage/classfile/ReferenceKind" "PUT_STATIC" "Lcom/example/linkstage/linkstage/classfile/ReferenceKind;" (.ref s3)) (S_4 : Sta Z Z.heap "com/example/linkstage/linkstage/classfile/ReferenceKind" "INVOKE_VIRTUAL" "Lcom/example/linkstage/linkstage/classfile/ReferenceKind;" (.ref s4)) (S_5 : Sta Z Z.heap "com/example/linkstage/linkstage/classfile/ReferenceKind" "INVOKE_STATIC" "Lcom/example/linkstage/linkstage/classfile/ReferenceKind;" (.ref s5)) (S_6 : Sta Z Z.heap "com/example/linkstage/linkstage/classfile/ReferenceKind" "INVOKE_SPECIAL" "Lcom/example/linkstage/linkstage/classfile/ReferenceKind;" (.ref s6)) (S_7 : Sta Z Z.heap "com/example/linkstage/linkstage/classfile/ReferenceKind" "NEW_INVOKE_SPECIAL" "Lcom/example/linkstage/linkstage/classfile/ReferenceKind;" (.ref s7)) (S_8 : Sta Z Z.heap "com/example/linkstage/linkstage/classfile/ReferenceKind" "INVOKE_INTERFACE" "Lcom/example/linkstage/linkstage/classfile/ReferenceKind;" (.ref s8)) (O0 : Old Z n0 h0) :
    MetFree l (⟨"com/example/linkstage/linkstage/classfile/ReferenceKindIsFieldPinLaw", "pick", "(I)Lcom/example/linkstage/linkstage/classfile/ReferenceKind;"⟩ : MethodName) (head1 (Jvm.Cond.code (⟨"com/example/linkstage/linkstage/classfile/ReferenceKindIsFieldPinLaw", "pick", "(I)Lcom/example/linkstage/linkstage/classfile/ReferenceKind;"⟩ : MethodName) method_2_code 1 (some (.object "com/example/linkstage/linkstage/classfile/ReferenceKind")) :: ws) ({ frames := 0, cells := 0, slots := 0, locals := 0 } : Room)) (fun a U => a = #[(.int p0)] ∧ Z.Warmed39 U.vm ∧ U.heap = h0) (fun _ _ _ _ _ => True) (fun _ U o U' => ∃ v L, o = .returned v ∧ Q1 Z p0 s0 s1 s2 s3 s4 s5 s6 s7 s8 h0 n0 v U'.heap L ∧ FrameEnd U o U' L ({ frames := 0, cells := 0, slots := 0, locals := 0 } : Room).cells ({ frames := 0, cells := 0, slots := 0, locals := 0 } : Room).slots) := by
  refine MetFree.of_bodySF (plainFor_of_name pn_0) hisR ?_
  intro p e s m args below meth c s₁ Bd hml0 hP hK
  obtain ⟨rfl, hZ, hh⟩ := hP
  have hx := Bd.exec
  have hby := Bd.bytes
  have hml : c.maxLocals = 1 := hml0
  have hown : s.vm.findClass "com/example/linkstage/linkstage/classfile/ReferenceKindIsFieldPinLaw" = some m.cls := findClass_of_methodNamed Bd.named
  have hnm := (name_of_methodNamed Bd.named Bd.method).1
  have hlk : meth.locks = false := Bd.notSynchronized
  have X0 : Stand p l e ({ frames := 0, cells := 0, slots := 0, locals := 0 } : Room) s m #[(.int p0)] below meth c s₁ [] 0 0 := Stand.of_body Bd
  have e0 : s₁.heap = h0 := by rw [← hh, Bd.state]; rfl
  have N0 := Fr.nil n0
  show OwnEnds p.tables e below (OwnQ s ({ frames := 0, cells := 0, slots := 0, locals := 0 } : Room).cells ({ frames := 0, cells := 0, slots := 0, locals := 0 } : Room).slots (Q1 Z p0 s0 s1 s2 s3 s4 s5 s6 s7 s8 h0 n0)) (s₁.setTop (entryFrame m #[(.int p0)] 1))
  refine own_via (fun t k => castTop (ef_1 m p0) k) ?_
  show OwnEnds p.tables e below _ (s₁.setTop (mkF m 0 #[.val (.int p0)] []))
  refine own_via (fun t k => XS.iloadN X0.here hx rfl (hb hby d1_0) rfl k) ?_
  show OwnEnds p.tables e below _ (s₁.setTop (mkF m 1 #[.val (.int p0)] [(.int p0)]))
  by_cases hc1_1 : p0 = (0 : Int32)
  · skip
    refine own_via (fun t k => XS.ifNo X0.here hx rfl (hb hby d1_1) rfl ((if0 _ _).trans (teq hc1_1).2) k) ?_
    show OwnEnds p.tables e below _ (s₁.setTop (mkF m 4 #[.val (.int p0)] []))
    obtain ⟨T2, X2, e2, st2⟩ := getS2 X0 hx hZ hown (host := "") (Or.inl (hw _ (List.mem_of_getElem? (i := 5) rfl))) Via.refl e0 (S_0.ext O0.2) (g := (mkF m 4 #[.val (.int p0)] [])) rfl (hb hby d1_4)
    refine own_via st2 ?_
    show OwnEnds p.tables e below _ (T2.setTop (mkF m 7 #[.val (.int p0)] [(.ref s0)]))
    refine own_retA X2 hx Bd.returns rfl rfl hlk (hb hby d1_7) ?_ (by decide) (by decide)
    rw [e2]
    exact ⟨congrArg (fun z => some (Value.ref z)) (show s0 = own_sel p0 s0 s1 s2 s3 s4 s5 s6 s7 s8 by simp only [own_sel, if_pos hc1_1]), N0, rfl⟩
  · skip
    refine own_via (fun t k => XS.ifYes X0.here hx rfl (pc0 := 1) (pc' := 8) rfl (hb hby d1_1) rfl ((if0 _ _).trans (feq hc1_1).2) (by decide) (by decide) k) ?_
    show OwnEnds p.tables e below _ (s₁.setTop (mkF m 8 #[.val (.int p0)] []))
    refine own_via (fun t k => XS.iloadN X0.here hx rfl (hb hby d1_8) rfl k) ?_
    show OwnEnds p.tables e below _ (s₁.setTop (mkF m 9 #[.val (.int p0)] [(.int p0)]))
    refine own_via (fun t k => XS.iconst X0.here hx rfl (hb hby d1_9) k) ?_
    show OwnEnds p.tables e below _ (s₁.setTop (mkF m 10 #[.val (.int p0)] [(.int (1 : Int32)), (.int p0)]))
    by_cases hc10_3 : p0 = (1 : Int32)
    · skip
      refine own_via (fun t k => XS.icmpNo X0.here hx rfl (hb hby d1_10) rfl (teq hc10_3).2 k) ?_
      show OwnEnds p.tables e below _ (s₁.setTop (mkF m 13 #[.val (.int p0)] []))
      obtain ⟨T4, X4, e4, st4⟩ := getS2 X0 hx hZ hown (host := "") (Or.inl (hw _ (List.mem_of_getElem? (i := 19) rfl))) Via.refl e0 (S_1.ext O0.2) (g := (mkF m 13 #[.val (.int p0)] [])) rfl (hb hby d1_13)
      refine own_via st4 ?_
      show OwnEnds p.tables e below _ (T4.setTop (mkF m 16 #[.val (.int p0)] [(.ref s1)]))
      refine own_retA X4 hx Bd.returns rfl rfl hlk (hb hby d1_16) ?_ (by decide) (by decide)
      rw [e4]
      exact ⟨congrArg (fun z => some (Value.ref z)) (show s1 = own_sel p0 s0 s1 s2 s3 s4 s5 s6 s7 s8 by simp only [own_sel, if_neg hc1_1, if_pos hc10_3]), N0, rfl⟩
    · skip
      refine own_via (fun t k => XS.icmpYes X0.here hx rfl (pc0 := 10) (pc' := 17) rfl (hb hby d1_10) rfl (feq hc10_3).2 (by decide) (by decide) k) ?_
      show OwnEnds p.tables e below _ (s₁.setTop (mkF m 17 #[.val (.int p0)] []))
      refine own_via (fun t k => XS.iloadN X0.here hx rfl (hb hby d1_17) rfl k) ?_
      show OwnEnds p.tables e below _ (s₁.setTop (mkF m 18 #[.val (.int p0)] [(.int p0)]))
      refine own_via (fun t k => XS.iconst X0.here hx rfl (hb hby d1_18) k) ?_
      show OwnEnds p.tables e below _ (s₁.setTop (mkF m 19 #[.val (.int p0)] [(.int (2 : Int32)), (.int p0)]))
      by_cases hc19_5 : p0 = (2 : Int32)
      · skip
        refine own_via (fun t k => XS.icmpNo X0.here hx rfl (hb hby d1_19) rfl (teq hc19_5).2 k) ?_
        show OwnEnds p.tables e below _ (s₁.setTop (mkF m 22 #[.val (.int p0)] []))
        obtain ⟨T6, X6, e6, st6⟩ := getS2 X0 hx hZ hown (host := "") (Or.inl (hw _ (List.mem_of_getElem? (i := 17) rfl))) Via.refl e0 (S_2.ext O0.2) (g := (mkF m 22 #[.val (.int p0)] [])) rfl (hb hby d1_22)
        refine own_via st6 ?_
        show OwnEnds p.tables e below _ (T6.setTop (mkF m 25 #[.val (.int p0)] [(.ref s2)]))
        refine own_retA X6 hx Bd.returns rfl rfl hlk (hb hby d1_25) ?_ (by decide) (by decide)
        rw [e6]
        exact ⟨congrArg (fun z => some (Value.ref z)) (show s2 = own_sel p0 s0 s1 s2 s3 s4 s5 s6 s7 s8 by simp only [own_sel, if_neg hc1_1, if_neg hc10_3, if_pos hc19_5]), N0, rfl⟩
      · skip
        refine own_via (fun t k => XS.icmpYes X0.here hx rfl (pc0 := 19) (pc' := 26) rfl (hb hby d1_19) rfl (feq hc19_5).2 (by decide) (by decide) k) ?_
        show OwnEnds p.tables e below _ (s₁.setTop (mkF m 26 #[.val (.int p0)] []))
        refine own_via (fun t k => XS.iloadN X0.here hx rfl (hb hby d1_26) rfl k) ?_
        show OwnEnds p.tables e below _ (s₁.setTop (mkF m 27 #[.val (.int p0)] [(.int p0)]))
        refine own_via (fun t k => XS.iconst X0.here hx rfl (hb hby d1_27) k) ?_
        show OwnEnds p.tables e below _ (s₁.setTop (mkF m 28 #[.val (.int p0)] [(.int (3 : Int32)), (.int p0)]))
        by_cases hc28_7 : p0 = (3 : Int32)
        · skip
          refine own_via (fun t k => XS.icmpNo X0.here hx rfl (hb hby d1_28) rfl (teq hc28_7).2 k) ?_
          show OwnEnds p.tables e below _ (s₁.setTop (mkF m 31 #[.val (.int p0)] []))
          obtain ⟨T8, X8, e8, st8⟩ := getS2 X0 hx hZ hown (host := "") (Or.inl (hw _ (List.mem_of_getElem? (i := 15) rfl))) Via.refl e0 (S_3.ext O0.2) (g := (mkF m 31 #[.val (.int p0)] [])) rfl (hb hby d1_31)
          refine own_via st8 ?_
          show OwnEnds p.tables e below _ (T8.setTop (mkF m 34 #[.val (.int p0)] [(.ref s3)]))
          refine own_retA X8 hx Bd.returns rfl rfl hlk (hb hby d1_34) ?_ (by decide) (by decide)
          rw [e8]
          exact ⟨congrArg (fun z => some (Value.ref z)) (show s3 = own_sel p0 s0 s1 s2 s3 s4 s5 s6 s7 s8 by simp only [own_sel, if_neg hc1_1, if_neg hc10_3, if_neg hc19_5, if_pos hc28_7]), N0, rfl⟩
        · skip
          refine own_via (fun t k => XS.icmpYes X0.here hx rfl (pc0 := 28) (pc' := 35) rfl (hb hby d1_28) rfl (feq hc28_7).2 (by decide) (by decide) k) ?_
          show OwnEnds p.tables e below _ (s₁.setTop (mkF m 35 #[.val (.int p0)] []))
          refine own_via (fun t k => XS.iloadN X0.here hx rfl (hb hby d1_35) rfl k) ?_
          show OwnEnds p.tables e below _ (s₁.setTop (mkF m 36 #[.val (.int p0)] [(.int p0)]))
          refine own_via (fun t k => XS.iconst X0.here hx rfl (hb hby d1_36) k) ?_
          show OwnEnds p.tables e below _ (s₁.setTop (mkF m 37 #[.val (.int p0)] [(.int (4 : Int32)), (.int p0)]))
          by_cases hc37_9 : p0 = (4 : Int32)
          · skip
            refine own_via (fun t k => XS.icmpNo X0.here hx rfl (hb hby d1_37) rfl (teq hc37_9).2 k) ?_
            show OwnEnds p.tables e below _ (s₁.setTop (mkF m 40 #[.val (.int p0)] []))
            obtain ⟨T10, X10, e10, st10⟩ := getS2 X0 hx hZ hown (host := "") (Or.inl (hw _ (List.mem_of_getElem? (i := 23) rfl))) Via.refl e0 (S_4.ext O0.2) (g := (mkF m 40 #[.val (.int p0)] [])) rfl (hb hby d1_40)
            refine own_via st10 ?_
            show OwnEnds p.tables e below _ (T10.setTop (mkF m 43 #[.val (.int p0)] [(.ref s4)]))
            refine own_retA X10 hx Bd.returns rfl rfl hlk (hb hby d1_43) ?_ (by decide) (by decide)
            rw [e10]
            exact ⟨congrArg (fun z => some (Value.ref z)) (show s4 = own_sel p0 s0 s1 s2 s3 s4 s5 s6 s7 s8 by simp only [own_sel, if_neg hc1_1, if_neg hc10_3, if_neg hc19_5, if_neg hc28_7, if_pos hc37_9]), N0, rfl⟩
          · skip
            refine own_via (fun t k => XS.icmpYes X0.here hx rfl (pc0 := 37) (pc' := 44) rfl (hb hby d1_37) rfl (feq hc37_9).2 (by decide) (by decide) k) ?_
            show OwnEnds p.tables e below _ (s₁.setTop (mkF m 44 #[.val (.int p0)] []))
            refine own_via (fun t k => XS.iloadN X0.here hx rfl (hb hby d1_44) rfl k) ?_
            show OwnEnds p.tables e below _ (s₁.setTop (mkF m 45 #[.val (.int p0)] [(.int p0)]))
            refine own_via (fun t k => XS.iconst X0.here hx rfl (hb hby d1_45) k) ?_
            show OwnEnds p.tables e below _ (s₁.setTop (mkF m 46 #[.val (.int p0)] [(.int (5 : Int32)), (.int p0)]))
            by_cases hc46_11 : p0 = (5 : Int32)
            · skip
              refine own_via (fun t k => XS.icmpNo X0.here hx rfl (hb hby d1_46) rfl (teq hc46_11).2 k) ?_
              show OwnEnds p.tables e below _ (s₁.setTop (mkF m 49 #[.val (.int p0)] []))
              obtain ⟨T12, X12, e12, st12⟩ := getS2 X0 hx hZ hown (host := "") (Or.inl (hw _ (List.mem_of_getElem? (i := 29) rfl))) Via.refl e0 (S_5.ext O0.2) (g := (mkF m 49 #[.val (.int p0)] [])) rfl (hb hby d1_49)
              refine own_via st12 ?_
              show OwnEnds p.tables e below _ (T12.setTop (mkF m 52 #[.val (.int p0)] [(.ref s5)]))
              refine own_retA X12 hx Bd.returns rfl rfl hlk (hb hby d1_52) ?_ (by decide) (by decide)
              rw [e12]
              exact ⟨congrArg (fun z => some (Value.ref z)) (show s5 = own_sel p0 s0 s1 s2 s3 s4 s5 s6 s7 s8 by simp only [own_sel, if_neg hc1_1, if_neg hc10_3, if_neg hc19_5, if_neg hc28_7, if_neg hc37_9, if_pos hc46_11]), N0, rfl⟩
            · skip
              refine own_via (fun t k => XS.icmpYes X0.here hx rfl (pc0 := 46) (pc' := 53) rfl (hb hby d1_46) rfl (feq hc46_11).2 (by decide) (by decide) k) ?_
              show OwnEnds p.tables e below _ (s₁.setTop (mkF m 53 #[.val (.int p0)] []))
              refine own_via (fun t k => XS.iloadN X0.here hx rfl (hb hby d1_53) rfl k) ?_
              show OwnEnds p.tables e below _ (s₁.setTop (mkF m 54 #[.val (.int p0)] [(.int p0)]))
              refine own_via (fun t k => XS.bipush X0.here hx rfl (hb hby d1_54) k) ?_
              show OwnEnds p.tables e below _ (s₁.setTop (mkF m 56 #[.val (.int p0)] [(.int (6 : Int32)), (.int p0)]))
              by_cases hc56_13 : p0 = (6 : Int32)
              · skip
                refine own_via (fun t k => XS.icmpNo X0.here hx rfl (hb hby d1_56) rfl (teq hc56_13).2 k) ?_
                show OwnEnds p.tables e below _ (s₁.setTop (mkF m 59 #[.val (.int p0)] []))
                obtain ⟨T14, X14, e14, st14⟩ := getS2 X0 hx hZ hown (host := "") (Or.inl (hw _ (List.mem_of_getElem? (i := 27) rfl))) Via.refl e0 (S_6.ext O0.2) (g := (mkF m 59 #[.val (.int p0)] [])) rfl (hb hby d1_59)
                refine own_via st14 ?_
                show OwnEnds p.tables e below _ (T14.setTop (mkF m 62 #[.val (.int p0)] [(.ref s6)]))
                refine own_retA X14 hx Bd.returns rfl rfl hlk (hb hby d1_62) ?_ (by decide) (by decide)
                rw [e14]
                exact ⟨congrArg (fun z => some (Value.ref z)) (show s6 = own_sel p0 s0 s1 s2 s3 s4 s5 s6 s7 s8 by simp only [own_sel, if_neg hc1_1, if_neg hc10_3, if_neg hc19_5, if_neg hc28_7, if_neg hc37_9, if_neg hc46_11, if_pos hc56_13]), N0, rfl⟩
              · skip
                refine own_via (fun t k => XS.icmpYes X0.here hx rfl (pc0 := 56) (pc' := 63) rfl (hb hby d1_56) rfl (feq hc56_13).2 (by decide) (by decide) k) ?_
                show OwnEnds p.tables e below _ (s₁.setTop (mkF m 63 #[.val (.int p0)] []))
                refine own_via (fun t k => XS.iloadN X0.here hx rfl (hb hby d1_63) rfl k) ?_
                show OwnEnds p.tables e below _ (s₁.setTop (mkF m 64 #[.val (.int p0)] [(.int p0)]))
                refine own_via (fun t k => XS.bipush X0.here hx rfl (hb hby d1_64) k) ?_
                show OwnEnds p.tables e below _ (s₁.setTop (mkF m 66 #[.val (.int p0)] [(.int (7 : Int32)), (.int p0)]))
                by_cases hc66_15 : p0 = (7 : Int32)
                · skip
                  refine own_via (fun t k => XS.icmpNo X0.here hx rfl (hb hby d1_66) rfl (teq hc66_15).2 k) ?_
                  show OwnEnds p.tables e below _ (s₁.setTop (mkF m 69 #[.val (.int p0)] []))
                  obtain ⟨T16, X16, e16, st16⟩ := getS2 X0 hx hZ hown (host := "") (Or.inl (hw _ (List.mem_of_getElem? (i := 21) rfl))) Via.refl e0 (S_7.ext O0.2) (g := (mkF m 69 #[.val (.int p0)] [])) rfl (hb hby d1_69)
                  refine own_via st16 ?_
                  show OwnEnds p.tables e below _ (T16.setTop (mkF m 72 #[.val (.int p0)] [(.ref s7)]))
                  refine own_retA X16 hx Bd.returns rfl rfl hlk (hb hby d1_72) ?_ (by decide) (by decide)
                  rw [e16]
                  exact ⟨congrArg (fun z => some (Value.ref z)) (show s7 = own_sel p0 s0 s1 s2 s3 s4 s5 s6 s7 s8 by simp only [own_sel, if_neg hc1_1, if_neg hc10_3, if_neg hc19_5, if_neg hc28_7, if_neg hc37_9, if_neg hc46_11, if_neg hc56_13, if_pos hc66_15]), N0, rfl⟩
                · skip
                  refine own_via (fun t k => XS.icmpYes X0.here hx rfl (pc0 := 66) (pc' := 73) rfl (hb hby d1_66) rfl (feq hc66_15).2 (by decide) (by decide) k) ?_
                  show OwnEnds p.tables e below _ (s₁.setTop (mkF m 73 #[.val (.int p0)] []))
                  obtain ⟨T17, X17, e17, st17⟩ := getS2 X0 hx hZ hown (host := "") (Or.inl (hw _ (List.mem_of_getElem? (i := 25) rfl))) Via.refl e0 (S_8.ext O0.2) (g := (mkF m 73 #[.val (.int p0)] [])) rfl (hb hby d1_73)
                  refine own_via st17 ?_
                  show OwnEnds p.tables e below _ (T17.setTop (mkF m 76 #[.val (.int p0)] [(.ref s8)]))
                  refine own_retA X17 hx Bd.returns rfl rfl hlk (hb hby d1_76) ?_ (by decide) (by decide)
                  rw [e17]
                  exact ⟨congrArg (fun z => some (Value.ref z)) (show s8 = own_sel p0 s0 s1 s2 s3 s4 s5 s6 s7 s8 by simp only [own_sel, if_neg hc1_1, if_neg hc10_3, if_neg hc19_5, if_neg hc28_7, if_neg hc37_9, if_neg hc46_11, if_neg hc56_13, if_neg hc66_15]), N0, rfl⟩
theorem d2_0 : decode prog_27_method_7_code 0 = .ok (.aload_n 0, 1) := by decide +kernel
theorem d2_1 : decode prog_27_method_7_code 1 = .ok (.getfield 54, 3) := by decide +kernel
theorem d2_4 : decode prog_27_method_7_code 4 = .ok (.sipush 178, 3) := by decide +kernel
theorem d2_7 : decode prog_27_method_7_code 7 = .ok (.if_icmp .lt 17, 3) := by decide +kernel
theorem d2_10 : decode prog_27_method_7_code 10 = .ok (.aload_n 0, 1) := by decide +kernel
theorem d2_11 : decode prog_27_method_7_code 11 = .ok (.getfield 54, 3) := by decide +kernel
theorem d2_14 : decode prog_27_method_7_code 14 = .ok (.sipush 181, 3) := by decide +kernel
theorem d2_17 : decode prog_27_method_7_code 17 = .ok (.if_icmp .gt 7, 3) := by decide +kernel
theorem d2_20 : decode prog_27_method_7_code 20 = .ok (.iconst 1, 1) := by decide +kernel
theorem d2_21 : decode prog_27_method_7_code 21 = .ok (.goto 4, 3) := by decide +kernel
theorem d2_24 : decode prog_27_method_7_code 24 = .ok (.iconst 0, 1) := by decide +kernel
theorem d2_25 : decode prog_27_method_7_code 25 = .ok (.ireturn, 1) := by decide +kernel
theorem pn_1 : plainName "com/example/linkstage/linkstage/classfile/ReferenceKind" = true := by first | (simp [plainName, overriddenIn]; done) | decide +kernel
theorem ef_2 (m : MethodId) (a0 : Addr) : entryFrame m #[(.ref a0)] 1 = mkF m 0 #[.val (.ref a0)] [] := by first | (simp [entryFrame, mkF, argsToLocals, Value.category]; done) | rfl
def Q2 (Z : State) (a0 : Addr) (w : Int32) (h0 : Heap) (n0 : Nat) (v : Option Value) (h : Heap) (L : List Loc) : Prop := v = some (.int (own_isf w)) ∧ Fr n0 L ∧ h = h0
set_option maxRecDepth 65536 in
set_option maxHeartbeats 40000000 in
theorem rm2 (l : Launch) (Z : State) (aw : Array Value) (hw : ∀ d ∈ tables_1, d.before aw Z = true) (ws : List Jvm.Cond) (a0 : Addr) (w : Int32) (h0 : Heap) (n0 : Nat) (Z0 : n0 ≤ h0.size) (F_a0 : Fld Z h0 a0 "com/example/linkstage/linkstage/classfile/ReferenceKind" "opcode" "I" (.int w)) :
    MetFree l (⟨"com/example/linkstage/linkstage/classfile/ReferenceKind", "isField", "()Z"⟩ : MethodName) (head1 (Jvm.Cond.code (⟨"com/example/linkstage/linkstage/classfile/ReferenceKind", "isField", "()Z"⟩ : MethodName) prog_27_method_7_code 1 (some .boolean) :: ws) ({ frames := 0, cells := 0, slots := 0, locals := 0 } : Room)) (fun a U => a = #[(.ref a0)] ∧ Z.Warmed39 U.vm ∧ U.heap = h0) (fun _ _ _ _ _ => True) (fun _ U o U' => ∃ v L, o = .returned v ∧ Q2 Z a0 w h0 n0 v U'.heap L ∧ FrameEnd U o U' L ({ frames := 0, cells := 0, slots := 0, locals := 0 } : Room).cells ({ frames := 0, cells := 0, slots := 0, locals := 0 } : Room).slots) := by
  refine MetFree.of_bodySF (plainFor_of_name pn_1) hisR ?_
  intro p e s m args below meth c s₁ Bd hml0 hP hK
  obtain ⟨rfl, hZ, hh⟩ := hP
  have hx := Bd.exec
  have hby := Bd.bytes
  have hml : c.maxLocals = 1 := hml0
  have hown : s.vm.findClass "com/example/linkstage/linkstage/classfile/ReferenceKind" = some m.cls := findClass_of_methodNamed Bd.named
  have hnm := (name_of_methodNamed Bd.named Bd.method).1
  have hlk : meth.locks = false := Bd.notSynchronized
  have X0 : Stand p l e ({ frames := 0, cells := 0, slots := 0, locals := 0 } : Room) s m #[(.ref a0)] below meth c s₁ [] 0 0 := Stand.of_body Bd
  have e0 : s₁.heap = h0 := by rw [← hh, Bd.state]; rfl
  have N0 := Fr.nil n0
  show OwnEnds p.tables e below (OwnQ s ({ frames := 0, cells := 0, slots := 0, locals := 0 } : Room).cells ({ frames := 0, cells := 0, slots := 0, locals := 0 } : Room).slots (Q2 Z a0 w h0 n0)) (s₁.setTop (entryFrame m #[(.ref a0)] 1))
  refine own_via (fun t k => castTop (ef_2 m a0) k) ?_
  show OwnEnds p.tables e below _ (s₁.setTop (mkF m 0 #[.val (.ref a0)] []))
  refine own_via (fun t k => XS.aloadN X0.here hx rfl (hb hby d2_0) rfl rfl k) ?_
  show OwnEnds p.tables e below _ (s₁.setTop (mkF m 1 #[.val (.ref a0)] [(.ref a0)]))
  obtain ⟨T1, X1, e1, st1⟩ := getF X0 hx hZ hown (host := "") (Or.inl (hw _ (List.mem_of_getElem? (i := 13) rfl))) Via.refl e0 F_a0 (g := (mkF m 1 #[.val (.ref a0)] [(.ref a0)])) rfl rfl (hb hby d2_1)
  refine own_via st1 ?_
  show OwnEnds p.tables e below _ (T1.setTop (mkF m 4 #[.val (.ref a0)] [(.int w)]))
  refine own_via (fun t k => XS.sipush X1.here hx rfl (hb hby d2_4) k) ?_
  show OwnEnds p.tables e below _ (T1.setTop (mkF m 7 #[.val (.ref a0)] [(.int (178 : Int32)), (.int w)]))
  by_cases hc7_2 : w < (178 : Int32)
  · skip
    refine own_via (fun t k => XS.icmpYes X1.here hx rfl (pc0 := 7) (pc' := 24) rfl (hb hby d2_7) rfl (tlt hc7_2).1 (by decide) (by decide) k) ?_
    show OwnEnds p.tables e below _ (T1.setTop (mkF m 24 #[.val (.ref a0)] []))
    refine own_via (fun t k => XS.iconst X1.here hx rfl (hb hby d2_24) k) ?_
    show OwnEnds p.tables e below _ (T1.setTop (mkF m 25 #[.val (.ref a0)] [(.int (0 : Int32))]))
    refine own_retN (t := .boolean) X1 hx Bd.returns (by simp) hlk (hb hby d2_25) ?_ (by decide) (by decide)
    rw [e1]
    exact ⟨congrArg (fun z => some (Value.int z)) (show nar .boolean (0 : Int32) = own_isf w by simp only [own_isf, if_pos hc7_2, own_nar1, own_nar0]), N0, rfl⟩
  · skip
    refine own_via (fun t k => XS.icmpNo X1.here hx rfl (hb hby d2_7) rfl (flt hc7_2).1 k) ?_
    show OwnEnds p.tables e below _ (T1.setTop (mkF m 10 #[.val (.ref a0)] []))
    refine own_via (fun t k => XS.aloadN X1.here hx rfl (hb hby d2_10) rfl rfl k) ?_
    show OwnEnds p.tables e below _ (T1.setTop (mkF m 11 #[.val (.ref a0)] [(.ref a0)]))
    obtain ⟨T3, X3, e3, st3⟩ := getF X1 hx hZ hown (host := "") (Or.inl (hw _ (List.mem_of_getElem? (i := 13) rfl))) Via.refl e1 F_a0 (g := (mkF m 11 #[.val (.ref a0)] [(.ref a0)])) rfl rfl (hb hby d2_11)
    refine own_via st3 ?_
    show OwnEnds p.tables e below _ (T3.setTop (mkF m 14 #[.val (.ref a0)] [(.int w)]))
    refine own_via (fun t k => XS.sipush X3.here hx rfl (hb hby d2_14) k) ?_
    show OwnEnds p.tables e below _ (T3.setTop (mkF m 17 #[.val (.ref a0)] [(.int (181 : Int32)), (.int w)]))
    by_cases hc17_4 : (181 : Int32) < w
    · skip
      refine own_via (fun t k => XS.icmpYes X3.here hx rfl (pc0 := 17) (pc' := 24) rfl (hb hby d2_17) rfl (tlt hc17_4).2.2.1 (by decide) (by decide) k) ?_
      show OwnEnds p.tables e below _ (T3.setTop (mkF m 24 #[.val (.ref a0)] []))
      refine own_via (fun t k => XS.iconst X3.here hx rfl (hb hby d2_24) k) ?_
      show OwnEnds p.tables e below _ (T3.setTop (mkF m 25 #[.val (.ref a0)] [(.int (0 : Int32))]))
      refine own_retN (t := .boolean) X3 hx Bd.returns (by simp) hlk (hb hby d2_25) ?_ (by decide) (by decide)
      rw [e3]
      exact ⟨congrArg (fun z => some (Value.int z)) (show nar .boolean (0 : Int32) = own_isf w by simp only [own_isf, if_neg hc7_2, if_pos hc17_4, own_nar1, own_nar0]), N0, rfl⟩
    · skip
      refine own_via (fun t k => XS.icmpNo X3.here hx rfl (hb hby d2_17) rfl (flt hc17_4).2.2.1 k) ?_
      show OwnEnds p.tables e below _ (T3.setTop (mkF m 20 #[.val (.ref a0)] []))
      refine own_via (fun t k => XS.iconst X3.here hx rfl (hb hby d2_20) k) ?_
      show OwnEnds p.tables e below _ (T3.setTop (mkF m 21 #[.val (.ref a0)] [(.int (1 : Int32))]))
      refine own_via (fun t k => XS.goto X3.here hx rfl (pc0 := 21) (pc' := 25) rfl (hb hby d2_21) (by decide) (by decide) k) ?_
      show OwnEnds p.tables e below _ (T3.setTop (mkF m 25 #[.val (.ref a0)] [(.int (1 : Int32))]))
      refine own_retN (t := .boolean) X3 hx Bd.returns (by simp) hlk (hb hby d2_25) ?_ (by decide) (by decide)
      rw [e3]
      exact ⟨congrArg (fun z => some (Value.int z)) (show nar .boolean (1 : Int32) = own_isf w by simp only [own_isf, if_neg hc7_2, if_neg hc17_4, own_nar1, own_nar0]), N0, rfl⟩
theorem ef_0 (m : MethodId) (p0 : Int32) : entryFrame m #[(.int p0)] maxLocals = mkF m 0 #[.val (.int p0), .unset, .unset, .unset] [] := by first | (simp [entryFrame, mkF, argsToLocals, Value.category, maxLocals]; done) | rfl
def Q0 (Z : State) (p0 : Int32) (s0 : Addr) (s1 : Addr) (s2 : Addr) (s3 : Addr) (s4 : Addr) (s5 : Addr) (s6 : Addr) (s7 : Addr) (s8 : Addr) (h0 : Heap) (n0 : Nat) (v : Option Value) (h : Heap) (L : List Loc) : Prop := v = some (.int 1) ∧ Fr n0 L
theorem pd_0 : parseMethodDescriptor "(I)Lcom/example/linkstage/linkstage/classfile/ReferenceKind;" = some ⟨[.int], some (.object "com/example/linkstage/linkstage/classfile/ReferenceKind")⟩ := by decide +kernel
theorem pd_1 : parseMethodDescriptor "()Z" = some ⟨[], some .boolean⟩ := by decide +kernel
set_option maxRecDepth 65536 in
set_option maxHeartbeats 40000000 in
theorem rm0 (l : Launch) (Z : State) (aw : Array Value) (hw : ∀ d ∈ tables_1, d.before aw Z = true) (ws : List Jvm.Cond) (p0 : Int32) (s0 : Addr) (s1 : Addr) (s2 : Addr) (s3 : Addr) (s4 : Addr) (s5 : Addr) (s6 : Addr) (s7 : Addr) (s8 : Addr) (h0 : Heap) (n0 : Nat) (Z0 : n0 ≤ h0.size) (S_0 : Sta Z Z.heap "com/example/linkstage/linkstage/classfile/ReferenceKind" "GET_FIELD" "Lcom/example/linkstage/linkstage/classfile/ReferenceKind;" (.ref s0)) (S_1 : Sta Z Z.heap "com/example/linkstage/linkstage/classfile/ReferenceKind" "GET_STATIC" "Lcom/example/linkstage/linkstage/classfile/ReferenceKind;" (.ref s1)) (S_2 : Sta Z Z.heap "com/example/linkstage/linkstage/classfile/ReferenceKind" "PUT_FIELD" "Lcom/example/linkstage/linkstage/classfile/ReferenceKind;" (.ref s2)) (S_3 : Sta Z Z.heap "com/example/linkstage/linkstage/classfile/ReferenceKind" "PUT_STATIC" "Lcom/example/linkstage/linkstage/classfile/ReferenceKind;" (.ref s3)) (S_4 : Sta Z Z.heap "com/example/linkstage/linkstage/classfile/ReferenceKind" "INVOKE_VIRTUAL" "Lcom/example/linkstage/linkstage/classfile/ReferenceKind;" (.ref s4)) (S_5 : Sta Z Z.heap "com/example/linkstage/linkstage/classfile/ReferenceKind" "INVOKE_STATIC" "Lcom/example/linkstage/linkstage/classfile/ReferenceKind;" (.ref s5)) (S_6 : Sta Z Z.heap "com/example/linkstage/linkstage/classfile/ReferenceKind" "INVOKE_SPECIAL" "Lcom/example/linkstage/linkstage/classfile/ReferenceKind;" (.ref s6)) (S_7 : Sta Z Z.heap "com/example/linkstage/linkstage/classfile/ReferenceKind" "NEW_INVOKE_SPECIAL" "Lcom/example/linkstage/linkstage/classfile/ReferenceKind;" (.ref s7)) (S_8 : Sta Z Z.heap "com/example/linkstage/linkstage/classfile/ReferenceKind" "INVOKE_INTERFACE" "Lcom/example/linkstage/linkstage/classfile/ReferenceKind;" (.ref s8)) (O0 : Old Z n0 h0) (hall : ∀ i, Exa Z h0 (own_sel i s0 s1 s2 s3 s4 s5 s6 s7 s8) "com/example/linkstage/linkstage/classfile/ReferenceKind" ∧ Fld Z h0 (own_sel i s0 s1 s2 s3 s4 s5 s6 s7 s8) "com/example/linkstage/linkstage/classfile/ReferenceKind" "opcode" "I" (.int (own_opc i))) :
    MetFree l x (head1 (Jvm.Cond.code x code maxLocals ret :: ws) room_1) (fun a U => a = #[(.int p0)] ∧ Z.Warmed39 U.vm ∧ U.heap = h0) (fun _ _ _ _ _ => True) (fun _ U o U' => ∃ v L, o = .returned v ∧ Q0 Z p0 s0 s1 s2 s3 s4 s5 s6 s7 s8 h0 n0 v U'.heap L ∧ FrameEnd U o U' L 0 0) := by
  refine MetFree.of_bodySF (plainFor_of_name pn_0) hisR ?_
  intro p e s m args below meth c s₁ Bd hml0 hP hK
  obtain ⟨rfl, hZ, hh⟩ := hP
  have hx := Bd.exec
  have hby := Bd.bytes
  have hml : c.maxLocals = 4 := hml0
  have hown : s.vm.findClass "com/example/linkstage/linkstage/classfile/ReferenceKindIsFieldPinLaw" = some m.cls := findClass_of_methodNamed Bd.named
  have hnm := (name_of_methodNamed Bd.named Bd.method).1
  have hlk : meth.locks = false := Bd.notSynchronized
  have X0 : Stand p l e room_1 s m #[(.int p0)] below meth c s₁ [] 0 0 := Stand.of_body Bd
  have e0 : s₁.heap = h0 := by rw [← hh, Bd.state]; rfl
  have N0 := Fr.nil n0
  show OwnEnds p.tables e below (OwnQ s 0 0 (Q0 Z p0 s0 s1 s2 s3 s4 s5 s6 s7 s8 h0 n0)) (s₁.setTop (entryFrame m #[(.int p0)] maxLocals))
  refine own_via (fun t k => castTop (ef_0 m p0) k) ?_
  show OwnEnds p.tables e below _ (s₁.setTop (mkF m 0 #[.val (.int p0), .unset, .unset, .unset] []))
  refine own_via (fun t k => XS.iloadN X0.here hx rfl (hb hby at_0) rfl k) ?_
  show OwnEnds p.tables e below _ (s₁.setTop (mkF m 1 #[.val (.int p0), .unset, .unset, .unset] [(.int p0)]))
  refine own_via (X0.ldcInt hx hown (mvT hZ (hw _ (List.mem_of_getElem? (i := 0) rfl))) (g := (mkF m 1 #[.val (.int p0), .unset, .unset, .unset] [(.int p0)])) rfl (hb hby at_1)) ?_
  show OwnEnds p.tables e below _ (s₁.setTop (mkF m 3 #[.val (.int p0), .unset, .unset, .unset] [(.int (2147483647 : Int32)), (.int p0)]))
  refine own_via (fun t k => XS.iand X0.here hx rfl (hb hby at_3) rfl k) ?_
  show OwnEnds p.tables e below _ (s₁.setTop (mkF m 4 #[.val (.int p0), .unset, .unset, .unset] [(.int (p0 &&& (2147483647 : Int32)))]))
  refine own_via (fun t k => XS.bipush X0.here hx rfl (hb hby at_4) k) ?_
  show OwnEnds p.tables e below _ (s₁.setTop (mkF m 6 #[.val (.int p0), .unset, .unset, .unset] [(.int (9 : Int32)), (.int (p0 &&& (2147483647 : Int32)))]))
  refine own_via (fun t k => Jvm.RoadKit.iremM X0 hx rfl (hb hby at_6) rfl (by decide) k) ?_
  show OwnEnds p.tables e below _ (s₁.setTop (mkF m 7 #[.val (.int p0), .unset, .unset, .unset] [(.int ((p0 &&& (2147483647 : Int32)) % (9 : Int32)))]))
  obtain ⟨iv, h_iv⟩ : ∃ z, z = ((p0 &&& (2147483647 : Int32)) % (9 : Int32)) := ⟨_, rfl⟩
  rw [← h_iv]
  refine own_via (fun t k => XS.istoreN X0.here hx rfl (hb hby at_7) rfl (l' := #[.val (.int p0), .val (.int iv), .unset, .unset]) rfl k) ?_
  show OwnEnds p.tables e below _ (s₁.setTop (mkF m 8 #[.val (.int p0), .val (.int iv), .unset, .unset] []))
  refine own_via (fun t k => XS.iloadN X0.here hx rfl (hb hby at_8) rfl k) ?_
  show OwnEnds p.tables e below _ (s₁.setTop (mkF m 9 #[.val (.int p0), .val (.int iv), .unset, .unset] [(.int iv)]))
  obtain ⟨_, _, ⟨T1, L1, k1, n1⟩, -, X1, ⟨Lc1, hQ1, l1, y1, z1⟩, st1⟩ := Jvm.LawKit.callS X0 hx (y := (⟨"com/example/linkstage/linkstage/classfile/ReferenceKindIsFieldPinLaw", "pick", "(I)Lcom/example/linkstage/linkstage/classfile/ReferenceKind;"⟩ : MethodName)) hown (mvT hZ (hw _ (List.mem_of_getElem? (i := 1) rfl))) (mvT hZ (hw _ (List.mem_of_getElem? (i := 2) rfl))) (mvT hZ (hw _ (List.mem_of_getElem? (i := 3) rfl))) (mvT hZ (hw _ (List.mem_of_getElem? (i := 4) rfl))) (by decide) (backOf (W := 0) (rm1 l Z aw hw [] iv s0 s1 s2 s3 s4 s5 s6 s7 s8 h0 n0 Z0 S_0 S_1 S_2 S_3 S_4 S_5 S_6 S_7 S_8 O0) hZ (hw _ (List.mem_of_getElem? (i := 4) rfl)) (hw _ (List.mem_of_getElem? (i := 3) rfl)) (by decide) (by decide)) (g := (mkF m 9 #[.val (.int p0), .val (.int iv), .unset, .unset] [(.int iv)])) rfl (by rw [hml]; rfl) (argsL := [(.int iv)]) (rest := []) (lenOf pd_0 rfl) rfl (by show 2 * 0 + _ ≤ _; exact Nat.le_of_eq rfl) (hb hby at_9) (fun _ _ => ⟨rfl, e0, (by decide : 0 + 0 ≤ _), (by decide : 0 + 0 ≤ _)⟩)
  dsimp only [Pt.U, Pt.locs, Pt.cells, Pt.slots] at X1 l1 y1 z1 st1 hQ1
  subst l1 y1 z1
  obtain ⟨rfl, Nq1, e1⟩ := hQ1
  have N1 := Fr.app N0 Nq1
  replace e1 : T1.heap = h0 := e1
  refine own_via st1 ?_
  show OwnEnds p.tables e below _ (T1.setTop (mkF m 12 #[.val (.int p0), .val (.int iv), .unset, .unset] [(.ref (own_sel iv s0 s1 s2 s3 s4 s5 s6 s7 s8))]))
  obtain ⟨kx, h_kx⟩ : ∃ z, z = (own_sel iv s0 s1 s2 s3 s4 s5 s6 s7 s8) := ⟨_, rfl⟩
  rw [← h_kx]
  obtain ⟨E_kx, F_kx⟩ := hall iv
  rw [← h_kx] at E_kx F_kx
  refine own_via (fun t k => XS.astoreN X1.here hx rfl (hb hby at_12) rfl rfl (l' := #[.val (.int p0), .val (.int iv), .val (.ref kx), .unset]) rfl k) ?_
  show OwnEnds p.tables e below _ (T1.setTop (mkF m 13 #[.val (.int p0), .val (.int iv), .val (.ref kx), .unset] []))
  refine own_via (fun t k => XS.iloadN X1.here hx rfl (hb hby at_13) rfl k) ?_
  show OwnEnds p.tables e below _ (T1.setTop (mkF m 14 #[.val (.int p0), .val (.int iv), .val (.ref kx), .unset] [(.int iv)]))
  refine own_via (fun t k => XS.iconst X1.here hx rfl (hb hby at_14) k) ?_
  show OwnEnds p.tables e below _ (T1.setTop (mkF m 15 #[.val (.int p0), .val (.int iv), .val (.ref kx), .unset] [(.int (4 : Int32)), (.int iv)]))
  have J23_2 : ∀ ex : Int32, ex = (if iv < (4 : Int32) then (1 : Int32) else (0 : Int32)) → OwnEnds p.tables e below (OwnQ s 0 0 (Q0 Z p0 s0 s1 s2 s3 s4 s5 s6 s7 s8 h0 n0)) (T1.setTop (mkF m 23 #[.val (.int p0), .val (.int iv), .val (.ref kx), .unset] [(.int ex)])) := by
    intro ex h_ex
    refine own_via (fun t k => XS.istoreN X1.here hx rfl (hb hby at_23) rfl (l' := #[.val (.int p0), .val (.int iv), .val (.ref kx), .val (.int ex)]) rfl k) ?_
    show OwnEnds p.tables e below _ (T1.setTop (mkF m 24 #[.val (.int p0), .val (.int iv), .val (.ref kx), .val (.int ex)] []))
    refine own_via (fun t k => XS.aloadN X1.here hx rfl (hb hby at_24) rfl rfl k) ?_
    show OwnEnds p.tables e below _ (T1.setTop (mkF m 25 #[.val (.int p0), .val (.int iv), .val (.ref kx), .val (.int ex)] [(.ref kx)]))
    obtain ⟨cq3, kq3, q3a, q3b, q3c⟩ := isOf hZ e1 E_kx
    obtain ⟨_, _, ⟨T3, L3, k3, n3⟩, -, X3, ⟨Lc3, hQ3, l3, y3, z3⟩, st3⟩ := X1.virtualBack hx (y := (⟨"com/example/linkstage/linkstage/classfile/ReferenceKind", "isField", "()Z"⟩ : MethodName)) (z := (⟨"com/example/linkstage/linkstage/classfile/ReferenceKind", "isField", "()Z"⟩ : MethodName)) hown (mvT hZ (hw _ (List.mem_of_getElem? (i := 8) rfl))) (mvT hZ (hw _ (List.mem_of_getElem? (i := 9) rfl))) (notFace_of_selects (args := #[]) (mvT hZ (hw _ (List.mem_of_getElem? (i := 11) rfl)))) (mvT hZ (hw _ (List.mem_of_getElem? (i := 11) rfl))) (mvT hZ (hw _ (List.mem_of_getElem? (i := 10) rfl))) (by decide) (backOf (W := 0) (rm2 l Z aw hw [] kx (own_opc iv) h0 n0 Z0 F_kx) hZ (hw _ (List.mem_of_getElem? (i := 12) rfl)) (hw _ (List.mem_of_getElem? (i := 6) rfl)) (by decide) (by decide)) q3a q3c (g := (mkF m 25 #[.val (.int p0), .val (.int iv), .val (.ref kx), .val (.int ex)] [(.ref kx)])) rfl (by rw [hml]; rfl) (Steps.refl _) (argsL := []) (rest := []) (lenOf pd_1 rfl) rfl (by show 2 * 0 + _ ≤ _; exact Nat.le_of_eq rfl) (hb hby at_25) (fun _ _ => ⟨rfl, e1, (by decide : 0 + 0 ≤ _), (by decide : 0 + 0 ≤ _)⟩)
    dsimp only [Pt.U, Pt.locs, Pt.cells, Pt.slots] at X3 l3 y3 z3 st3 hQ3
    subst l3 y3 z3
    obtain ⟨rfl, Nq3, e3⟩ := hQ3
    have N3 := Fr.app N1 Nq3
    replace e3 : T3.heap = h0 := e3
    refine own_of st3 ?_
    show OwnEnds p.tables e below _ (T3.setTop (mkF m 28 #[.val (.int p0), .val (.int iv), .val (.ref kx), .val (.int ex)] [(.int (own_isf (own_opc iv)))]))
    refine own_via (fun t k => XS.iloadN X3.here hx rfl (hb hby at_28) rfl k) ?_
    show OwnEnds p.tables e below _ (T3.setTop (mkF m 29 #[.val (.int p0), .val (.int iv), .val (.ref kx), .val (.int ex)] [(.int ex), (.int (own_isf (own_opc iv)))]))
    have hc29_4 : (own_isf (own_opc iv)) = ex := own_main h_iv h_ex
    refine own_via (fun t k => XS.icmpNo X3.here hx rfl (hb hby at_29) rfl (teq hc29_4).2 k) ?_
    show OwnEnds p.tables e below _ (T3.setTop (mkF m 32 #[.val (.int p0), .val (.int iv), .val (.ref kx), .val (.int ex)] []))
    refine own_via (fun t k => XS.iconst X3.here hx rfl (hb hby at_32) k) ?_
    show OwnEnds p.tables e below _ (T3.setTop (mkF m 33 #[.val (.int p0), .val (.int iv), .val (.ref kx), .val (.int ex)] [(.int (1 : Int32))]))
    refine own_via (fun t k => XS.goto X3.here hx rfl (pc0 := 33) (pc' := 37) rfl (hb hby at_33) (by decide) (by decide) k) ?_
    show OwnEnds p.tables e below _ (T3.setTop (mkF m 37 #[.val (.int p0), .val (.int iv), .val (.ref kx), .val (.int ex)] [(.int (1 : Int32))]))
    refine own_retN (t := .boolean) X3 hx Bd.returns (by simp) hlk (hb hby at_37) ?_ (by decide) (by decide)
    rw [e3]
    exact ⟨rfl, N3⟩
  by_cases hc15_5 : iv < (4 : Int32)
  · skip
    refine own_via (fun t k => XS.icmpNo X1.here hx rfl (hb hby at_15) rfl (tlt hc15_5).2.1 k) ?_
    show OwnEnds p.tables e below _ (T1.setTop (mkF m 18 #[.val (.int p0), .val (.int iv), .val (.ref kx), .unset] []))
    refine own_via (fun t k => XS.iconst X1.here hx rfl (hb hby at_18) k) ?_
    show OwnEnds p.tables e below _ (T1.setTop (mkF m 19 #[.val (.int p0), .val (.int iv), .val (.ref kx), .unset] [(.int (1 : Int32))]))
    refine own_via (fun t k => XS.goto X1.here hx rfl (pc0 := 19) (pc' := 23) rfl (hb hby at_19) (by decide) (by decide) k) ?_
    show OwnEnds p.tables e below _ (T1.setTop (mkF m 23 #[.val (.int p0), .val (.int iv), .val (.ref kx), .unset] [(.int (1 : Int32))]))
    exact J23_2 _ (by simp only [if_pos hc15_5])
  · skip
    refine own_via (fun t k => XS.icmpYes X1.here hx rfl (pc0 := 15) (pc' := 22) rfl (hb hby at_15) rfl (flt hc15_5).2.1 (by decide) (by decide) k) ?_
    show OwnEnds p.tables e below _ (T1.setTop (mkF m 22 #[.val (.int p0), .val (.int iv), .val (.ref kx), .unset] []))
    refine own_via (fun t k => XS.iconst X1.here hx rfl (hb hby at_22) k) ?_
    show OwnEnds p.tables e below _ (T1.setTop (mkF m 23 #[.val (.int p0), .val (.int iv), .val (.ref kx), .unset] [(.int (0 : Int32))]))
    exact J23_2 _ (by simp only [if_neg hc15_5])
set_option maxRecDepth 65536 in
set_option maxHeartbeats 40000000 in
theorem comes_1 {Post : Tables → Env → Array Value → State → Outcome → State → Prop} (hpost : ∀ tb e args s v u, (limb_1_1.after args s (.returned v) u = true ∧ limb_1_2.after args s (.returned v) u = true ∧ True) → FrameEnd s (.returned v) u (Jvm.fieldLocs frame_1_writes args s ++ Jvm.arrayLocs frame_1_arrays args s ++ Jvm.staticLocs frame_1_statics s) 0 0 → Post tb e args s (.returned v) u) :
    ArmFor flags0 classFile x code maxLocals ret World_1 tables_1 room_1 Calls_1 rest_1 Pre_1 Post := by
  intro l hfl _ _ p e ha hc hk s m args below hf hA hF happ hP
  obtain ⟨hcalls, hrest, hpre⟩ := hP
  obtain ⟨-, -, -, hnamed, -, -, -, hat⟩ := (Spec.applies_iff hf).mp happ
  obtain ⟨hg, hn⟩ := and_e (Cond.before_iff.mp (show (Jvm.Cond.and given_1 narrow_1).before args s = true from hpre))
  obtain ⟨hq0, hg0⟩ := and_e hg
  obtain ⟨w0, rfl⟩ : ∃ w0 : Value, args = #[w0] := by
    have hs : args.size = 1 := by simpa [Cond.value, given_1] using hq0
    obtain ⟨L⟩ := args
    match L, hs with
    | [w0], _ => exact ⟨w0, rfl⟩
  have hw := fun d (hd : d ∈ tables_1) => atoms_spec (ws := Jvm.Cond.code x code maxLocals ret :: tables_1) hat d (List.mem_cons_of_mem _ hd)
  have hfit : Fit s := fun {y c} hc i hi => by
    obtain ⟨ha, rfl⟩ := Array.getElem?_eq_some_iff.mp hc
    have q := List.all_eq_true.mp ((Array.all_eq_true_iff_forall_mem.mp hF) _ (Array.getElem_mem ha)) i (List.mem_range.mpr hi)
    simpa [Array.getElem?_eq_getElem hi] using q
  obtain ⟨i0, ei0⟩ := is_v hg0
  obtain rfl : w0 = (.int i0) := Option.some.inj ei0
  obtain ⟨hxGET_FIELD, hn0⟩ := and_e hn
  obtain ⟨hoGET_FIELD, hn1⟩ := and_e hn0
  obtain ⟨hxPUT_STATIC, hn2⟩ := and_e hn1
  obtain ⟨hoPUT_STATIC, hn3⟩ := and_e hn2
  obtain ⟨hxPUT_FIELD, hn4⟩ := and_e hn3
  obtain ⟨hoPUT_FIELD, hn5⟩ := and_e hn4
  obtain ⟨hxGET_STATIC, hn6⟩ := and_e hn5
  obtain ⟨hoGET_STATIC, hn7⟩ := and_e hn6
  obtain ⟨hxNEW_INVOKE_SPECIAL, hn8⟩ := and_e hn7
  obtain ⟨hoNEW_INVOKE_SPECIAL, hn9⟩ := and_e hn8
  obtain ⟨hxINVOKE_VIRTUAL, hn10⟩ := and_e hn9
  obtain ⟨hoINVOKE_VIRTUAL, hn11⟩ := and_e hn10
  obtain ⟨hxINVOKE_INTERFACE, hn12⟩ := and_e hn11
  obtain ⟨hoINVOKE_INTERFACE, hn13⟩ := and_e hn12
  obtain ⟨hxINVOKE_SPECIAL, hn14⟩ := and_e hn13
  obtain ⟨hoINVOKE_SPECIAL, hn15⟩ := and_e hn14
  obtain ⟨hxINVOKE_STATIC, hoINVOKE_STATIC⟩ := and_e hn15
  obtain ⟨s0, ev0⟩ := exa_v hxGET_FIELD
  have E_0 := Exa.start ev0 hxGET_FIELD
  have F_0 := own_eqF ev0 hoGET_FIELD
  have S_0 : Sta s s.heap "com/example/linkstage/linkstage/classfile/ReferenceKind" "GET_FIELD" "Lcom/example/linkstage/linkstage/classfile/ReferenceKind;" (.ref s0) := Sta.start ev0 (Or.inr ⟨(hw _ (List.mem_of_getElem? (i := 6) rfl)), (hw _ (List.mem_of_getElem? (i := 7) rfl))⟩)
  obtain ⟨s1, ev1⟩ := exa_v hxGET_STATIC
  have E_1 := Exa.start ev1 hxGET_STATIC
  have F_1 := own_eqF ev1 hoGET_STATIC
  have S_1 : Sta s s.heap "com/example/linkstage/linkstage/classfile/ReferenceKind" "GET_STATIC" "Lcom/example/linkstage/linkstage/classfile/ReferenceKind;" (.ref s1) := Sta.start ev1 (Or.inr ⟨(hw _ (List.mem_of_getElem? (i := 6) rfl)), (hw _ (List.mem_of_getElem? (i := 20) rfl))⟩)
  obtain ⟨s2, ev2⟩ := exa_v hxPUT_FIELD
  have E_2 := Exa.start ev2 hxPUT_FIELD
  have F_2 := own_eqF ev2 hoPUT_FIELD
  have S_2 : Sta s s.heap "com/example/linkstage/linkstage/classfile/ReferenceKind" "PUT_FIELD" "Lcom/example/linkstage/linkstage/classfile/ReferenceKind;" (.ref s2) := Sta.start ev2 (Or.inr ⟨(hw _ (List.mem_of_getElem? (i := 6) rfl)), (hw _ (List.mem_of_getElem? (i := 18) rfl))⟩)
  obtain ⟨s3, ev3⟩ := exa_v hxPUT_STATIC
  have E_3 := Exa.start ev3 hxPUT_STATIC
  have F_3 := own_eqF ev3 hoPUT_STATIC
  have S_3 : Sta s s.heap "com/example/linkstage/linkstage/classfile/ReferenceKind" "PUT_STATIC" "Lcom/example/linkstage/linkstage/classfile/ReferenceKind;" (.ref s3) := Sta.start ev3 (Or.inr ⟨(hw _ (List.mem_of_getElem? (i := 6) rfl)), (hw _ (List.mem_of_getElem? (i := 16) rfl))⟩)
  obtain ⟨s4, ev4⟩ := exa_v hxINVOKE_VIRTUAL
  have E_4 := Exa.start ev4 hxINVOKE_VIRTUAL
  have F_4 := own_eqF ev4 hoINVOKE_VIRTUAL
  have S_4 : Sta s s.heap "com/example/linkstage/linkstage/classfile/ReferenceKind" "INVOKE_VIRTUAL" "Lcom/example/linkstage/linkstage/classfile/ReferenceKind;" (.ref s4) := Sta.start ev4 (Or.inr ⟨(hw _ (List.mem_of_getElem? (i := 6) rfl)), (hw _ (List.mem_of_getElem? (i := 24) rfl))⟩)
  obtain ⟨s5, ev5⟩ := exa_v hxINVOKE_STATIC
  have E_5 := Exa.start ev5 hxINVOKE_STATIC
  have F_5 := own_eqF ev5 hoINVOKE_STATIC
  have S_5 : Sta s s.heap "com/example/linkstage/linkstage/classfile/ReferenceKind" "INVOKE_STATIC" "Lcom/example/linkstage/linkstage/classfile/ReferenceKind;" (.ref s5) := Sta.start ev5 (Or.inr ⟨(hw _ (List.mem_of_getElem? (i := 6) rfl)), (hw _ (List.mem_of_getElem? (i := 30) rfl))⟩)
  obtain ⟨s6, ev6⟩ := exa_v hxINVOKE_SPECIAL
  have E_6 := Exa.start ev6 hxINVOKE_SPECIAL
  have F_6 := own_eqF ev6 hoINVOKE_SPECIAL
  have S_6 : Sta s s.heap "com/example/linkstage/linkstage/classfile/ReferenceKind" "INVOKE_SPECIAL" "Lcom/example/linkstage/linkstage/classfile/ReferenceKind;" (.ref s6) := Sta.start ev6 (Or.inr ⟨(hw _ (List.mem_of_getElem? (i := 6) rfl)), (hw _ (List.mem_of_getElem? (i := 28) rfl))⟩)
  obtain ⟨s7, ev7⟩ := exa_v hxNEW_INVOKE_SPECIAL
  have E_7 := Exa.start ev7 hxNEW_INVOKE_SPECIAL
  have F_7 := own_eqF ev7 hoNEW_INVOKE_SPECIAL
  have S_7 : Sta s s.heap "com/example/linkstage/linkstage/classfile/ReferenceKind" "NEW_INVOKE_SPECIAL" "Lcom/example/linkstage/linkstage/classfile/ReferenceKind;" (.ref s7) := Sta.start ev7 (Or.inr ⟨(hw _ (List.mem_of_getElem? (i := 6) rfl)), (hw _ (List.mem_of_getElem? (i := 22) rfl))⟩)
  obtain ⟨s8, ev8⟩ := exa_v hxINVOKE_INTERFACE
  have E_8 := Exa.start ev8 hxINVOKE_INTERFACE
  have F_8 := own_eqF ev8 hoINVOKE_INTERFACE
  have S_8 : Sta s s.heap "com/example/linkstage/linkstage/classfile/ReferenceKind" "INVOKE_INTERFACE" "Lcom/example/linkstage/linkstage/classfile/ReferenceKind;" (.ref s8) := Sta.start ev8 (Or.inr ⟨(hw _ (List.mem_of_getElem? (i := 6) rfl)), (hw _ (List.mem_of_getElem? (i := 26) rfl))⟩)
  have hall : ∀ i, Exa s s.heap (own_sel i s0 s1 s2 s3 s4 s5 s6 s7 s8) "com/example/linkstage/linkstage/classfile/ReferenceKind" ∧ Fld s s.heap (own_sel i s0 s1 s2 s3 s4 s5 s6 s7 s8) "com/example/linkstage/linkstage/classfile/ReferenceKind" "opcode" "I" (.int (own_opc i)) := fun i => own_all (P := fun a k => Exa s s.heap a "com/example/linkstage/linkstage/classfile/ReferenceKind" ∧ Fld s s.heap a "com/example/linkstage/linkstage/classfile/ReferenceKind" "opcode" "I" (.int k)) ⟨E_0, F_0⟩ ⟨E_1, F_1⟩ ⟨E_2, F_2⟩ ⟨E_3, F_3⟩ ⟨E_4, F_4⟩ ⟨E_5, F_5⟩ ⟨E_6, F_6⟩ ⟨E_7, F_7⟩ ⟨E_8, F_8⟩ i
  obtain ⟨n, o, h1, h2, h3, _, L, rfl, ⟨rfl, N⟩, hq⟩ := rm0 l s _ hw tables_1 i0 s0 s1 s2 s3 s4 s5 s6 s7 s8 s.heap s.heap.size (Nat.le_refl _) S_0 S_1 S_2 S_3 S_4 S_5 S_6 S_7 S_8 (Old.start s) hall p e ha hc hk s m _ below hf ((Spec.applies_iff_loose hf).mp happ).1 ⟨rfl, State.Warmed39.refl s, rfl⟩ trivial
  refine ⟨n, _, h1, h2, h3, hpost _ _ _ _ _ _ ⟨Cond.after_iff.mpr rfl, Cond.after_iff.mpr (eq_i res_at (Term.int_eval (1)) rfl), trivial⟩ ⟨hq.1, hq.2.1, (hq.2.2.sift fun y hy => Or.inr (N y hy)).mono (by decide) (by decide)⟩⟩
theorem main_1_1 : Claimed_1_1 := comes_1 fun _ _ _ _ _ _ h hF => ⟨h.1, hF⟩
theorem main_1_2 : Claimed_1_2 := comes_1 fun _ _ _ _ _ _ h hF => ⟨h.2.1, hF⟩
end Jvm.Pilot.@@N@@
namespace Jvm.Pilot.@@N@@
open Jvm Jvm.ClassFile Sem Op Lib Jvm.Free Jvm.Stand Jvm.Pilot.@@N@@.Jvm.D
/-! MADE BY PROGRAM (witnessworld.py) out of the Statement's table words and the real class files: 12 classes; the members and pool entries that the words name. The judged class is class 1, her method 2. -/
namespace start1
open Jvm.ClassFile
def u (s : String) : CpInfo := .utf8 (stringToUtf16 s)
/-- a pool by its gaps: so many unusable entries, then the entry; so many at the end -/
def gap : Nat → List CpInfo → List CpInfo
  | 0, r => r
  | n + 1, r => .unusable :: gap n r
def poolList (es : List (Nat × CpInfo)) (last : Nat) : List CpInfo := es.foldr (fun e r => gap e.1 (e.2 :: r)) (gap last [])
def pool (es : List (Nat × CpInfo)) (last : Nat) : Array CpInfo := ⟨poolList es last⟩
def fileOf (pool : Array CpInfo) (this : Nat) (attrs : Array Attribute := #[]) (ms : Array MethodInfo := #[]) (fl : Nat := 33) (sup : Nat := 0) (ifs : Array Nat := #[]) (fds : Array FieldInfo := #[]) : ClassFile where
  minorVersion := 0
  majorVersion := 65
  constantPool := pool
  accessFlags := fl
  thisClass := this
  superClass := sup
  interfaces := ifs
  fields := fds
  methods := ms
  attributes := attrs
def plain (name : String) (sup : Option ClassId) : Class where
  name := name
  kind := .ordinary
  loader := none
  accessFlags := 33
  super := sup
  interfaces := #[]
  cf := none
  fields := #[]
  methods := #[]
  instanceTypes := #[]
  staticTypes := #[]
  resolved := #[]
  callSites := []
  init := .initialized
  statics := none
  mirror := none

def pool0 : Array CpInfo := pool [(5, u "<init>"), (0, u "()V"), (1, .class_ 10), (1, u "java/lang/Object")] 113

def k0m0 : Method := { name := "<init>", desc := "()V", sig := { parameters := [], returnType := none }, accessFlags := 1, code := none }
/-- java/lang/Object -/
def k0 : Class := { plain "java/lang/Object" none with
  accessFlags := 33
  interfaces := #[]
  cf := some (fileOf pool0 8 #[] #[{ accessFlags := 1, nameIndex := 5, descriptorIndex := 6, attributes := #[] }] 33 0 #[] #[])
  fields := #[]
  methods := #[k0m0]
  instanceTypes := #[]
  staticTypes := #[]
  resolved := Array.replicate 124 none
  statics := none }

def pool1 : Array CpInfo := pool [(2, .class_ 4), (1, u "java/lang/Object"), (0, u "<init>"), (0, u "()V"), (0, .fieldref 8 9), (0, .class_ 10), (0, .nameAndType 11 12), (0, u "com/example/linkstage/linkstage/classfile/ReferenceKind"), (0, u "GET_FIELD"), (0, u "Lcom/example/linkstage/linkstage/classfile/ReferenceKind;"), (0, .fieldref 8 14), (0, .nameAndType 15 12), (0, u "GET_STATIC"), (0, .fieldref 8 17), (0, .nameAndType 18 12), (0, u "PUT_FIELD"), (0, .fieldref 8 20), (0, .nameAndType 21 12), (0, u "PUT_STATIC"), (0, .fieldref 8 23), (0, .nameAndType 24 12), (0, u "INVOKE_VIRTUAL"), (0, .fieldref 8 26), (0, .nameAndType 27 12), (0, u "INVOKE_STATIC"), (0, .fieldref 8 29), (0, .nameAndType 30 12), (0, u "INVOKE_SPECIAL"), (0, .fieldref 8 32), (0, .nameAndType 33 12), (0, u "NEW_INVOKE_SPECIAL"), (0, .fieldref 8 35), (0, .nameAndType 36 12), (0, u "INVOKE_INTERFACE"), (0, .integer 2147483647), (0, .methodref 39 40), (0, .class_ 41), (0, .nameAndType 42 43), (0, u "com/example/linkstage/linkstage/classfile/ReferenceKindIsFieldPinLaw"), (0, u "pick"), (0, u "(I)Lcom/example/linkstage/linkstage/classfile/ReferenceKind;"), (0, .methodref 8 45), (0, .nameAndType 46 47), (0, u "isField"), (0, u "()Z"), (3, u "law"), (0, u "(I)Z")] 2

def k1m0 : Method := { name := "<init>", desc := "()V", sig := { parameters := [], returnType := none }, accessFlags := 2, code := none }
def k1c1 : Code := { maxStack := 2, maxLocals := 1, code := method_2_code, exceptionTable := #[], attributes := #[] }
def k1m1 : Method := { name := "pick", desc := "(I)Lcom/example/linkstage/linkstage/classfile/ReferenceKind;", sig := { parameters := [.int], returnType := some (.object "com/example/linkstage/linkstage/classfile/ReferenceKind") }, accessFlags := 10, code := some k1c1 }
def k1c2 : Code := { maxStack := 2, maxLocals := 4, code := code, exceptionTable := #[], attributes := #[] }
def k1m2 : Method := { name := "law", desc := "(I)Z", sig := { parameters := [.int], returnType := some .boolean }, accessFlags := 9, code := some k1c2 }
/-- com/example/linkstage/linkstage/classfile/ReferenceKindIsFieldPinLaw -/
def k1 : Class := { plain "com/example/linkstage/linkstage/classfile/ReferenceKindIsFieldPinLaw" (some 0) with
  accessFlags := 49
  interfaces := #[]
  cf := some (fileOf pool1 39 #[] #[{ accessFlags := 2, nameIndex := 5, descriptorIndex := 6, attributes := #[] }, { accessFlags := 10, nameIndex := 42, descriptorIndex := 43, attributes := #[] }, { accessFlags := 9, nameIndex := 51, descriptorIndex := 52, attributes := #[] }] 49 2 #[] #[])
  fields := #[]
  methods := #[k1m0, k1m1, k1m2]
  instanceTypes := #[]
  staticTypes := #[]
  resolved := Array.replicate 55 none
  statics := none }

def pool2 : Array CpInfo := pool [(1, .class_ 2), (0, u "java/lang/constant/Constable"), (0, .class_ 4), (0, u "java/lang/Object")] 6

/-- java/lang/constant/Constable -/
def k2 : Class := { plain "java/lang/constant/Constable" (some 0) with
  accessFlags := 1537
  interfaces := #[]
  cf := some (fileOf pool2 1 #[] #[] 1537 3 #[] #[])
  fields := #[]
  methods := #[]
  instanceTypes := #[]
  staticTypes := #[]
  resolved := Array.replicate 11 none
  statics := none }

def pool3 : Array CpInfo := pool [(1, .class_ 2), (0, u "java/lang/Comparable"), (0, .class_ 4), (0, u "java/lang/Object")] 7

/-- java/lang/Comparable -/
def k3 : Class := { plain "java/lang/Comparable" (some 0) with
  accessFlags := 1537
  interfaces := #[]
  cf := some (fileOf pool3 1 #[] #[] 1537 3 #[] #[])
  fields := #[]
  methods := #[]
  instanceTypes := #[]
  staticTypes := #[]
  resolved := Array.replicate 12 none
  statics := none }

def pool4 : Array CpInfo := pool [(1, .class_ 2), (0, u "java/io/Serializable"), (0, .class_ 4), (0, u "java/lang/Object")] 2

/-- java/io/Serializable -/
def k4 : Class := { plain "java/io/Serializable" (some 0) with
  accessFlags := 1537
  interfaces := #[]
  cf := some (fileOf pool4 1 #[] #[] 1537 3 #[] #[])
  fields := #[]
  methods := #[]
  instanceTypes := #[]
  staticTypes := #[]
  resolved := Array.replicate 7 none
  statics := none }

def pool5 : Array CpInfo := pool [(2, .class_ 4), (1, u "java/lang/Enum"), (0, u "name"), (0, u "Ljava/lang/String;"), (2, u "ordinal"), (0, u "I"), (1, .class_ 14), (1, u "java/lang/Object"), (4, u "hash"), (86, .class_ 108), (1, u "java/lang/Enum$EnumDesc"), (2, .class_ 112), (0, u "java/lang/constant/Constable"), (0, .class_ 114), (0, u "java/lang/Comparable"), (0, .class_ 116), (0, u "java/io/Serializable")] 87

/-- java/lang/Enum -/
def k5 : Class := { plain "java/lang/Enum" (some 0) with
  accessFlags := 1057
  interfaces := #[2, 3, 4]
  cf := some (fileOf pool5 2 #[.nestMembers #[106]] #[] 1057 12 #[111, 113, 115] #[{ accessFlags := 18, nameIndex := 5, descriptorIndex := 6, attributes := #[] }, { accessFlags := 18, nameIndex := 9, descriptorIndex := 10, attributes := #[] }, { accessFlags := 2, nameIndex := 19, descriptorIndex := 10, attributes := #[] }])
  fields := #[{ name := "name", type := (.object "java/lang/String"), accessFlags := 18, slot := 0, constantValue := 0 }, { name := "ordinal", type := .int, accessFlags := 18, slot := 1, constantValue := 0 }, { name := "hash", type := .int, accessFlags := 2, slot := 2, constantValue := 0 }]
  methods := #[]
  instanceTypes := #[(.object "java/lang/String"), .int, .int]
  staticTypes := #[]
  resolved := Array.replicate 204 none
  statics := none }

def pool6 : Array CpInfo := pool [(1, .class_ 2), (0, u "com/example/linkstage/linkstage/classfile/ReferenceKind"), (2, u "GET_FIELD"), (0, u "Lcom/example/linkstage/linkstage/classfile/ReferenceKind;"), (2, u "GET_STATIC"), (2, u "PUT_FIELD"), (2, u "PUT_STATIC"), (2, u "INVOKE_VIRTUAL"), (2, u "INVOKE_STATIC"), (2, u "INVOKE_SPECIAL"), (2, u "NEW_INVOKE_SPECIAL"), (2, u "INVOKE_INTERFACE"), (2, u "$VALUES"), (0, u "[Lcom/example/linkstage/linkstage/classfile/ReferenceKind;"), (6, .class_ 43), (1, u "java/lang/Enum"), (8, u "value"), (0, u "I"), (0, .fieldref 1 55), (0, .nameAndType 56 53), (0, u "opcode"), (41, u "isField"), (0, u "()Z")] 5

def k6c0 : Code := { maxStack := 2, maxLocals := 1, code := prog_27_method_7_code, exceptionTable := #[], attributes := #[] }
def k6m0 : Method := { name := "isField", desc := "()Z", sig := { parameters := [], returnType := some .boolean }, accessFlags := 1, code := some k6c0 }
/-- com/example/linkstage/linkstage/classfile/ReferenceKind -/
def k6 : Class := { plain "com/example/linkstage/linkstage/classfile/ReferenceKind" (some 5) with
  accessFlags := 16433
  interfaces := #[]
  cf := some (fileOf pool6 1 #[] #[{ accessFlags := 1, nameIndex := 98, descriptorIndex := 99, attributes := #[] }] 16433 41 #[] #[{ accessFlags := 16409, nameIndex := 5, descriptorIndex := 6, attributes := #[] }, { accessFlags := 16409, nameIndex := 9, descriptorIndex := 6, attributes := #[] }, { accessFlags := 16409, nameIndex := 12, descriptorIndex := 6, attributes := #[] }, { accessFlags := 16409, nameIndex := 15, descriptorIndex := 6, attributes := #[] }, { accessFlags := 16409, nameIndex := 18, descriptorIndex := 6, attributes := #[] }, { accessFlags := 16409, nameIndex := 21, descriptorIndex := 6, attributes := #[] }, { accessFlags := 16409, nameIndex := 24, descriptorIndex := 6, attributes := #[] }, { accessFlags := 16409, nameIndex := 27, descriptorIndex := 6, attributes := #[] }, { accessFlags := 16409, nameIndex := 30, descriptorIndex := 6, attributes := #[] }, { accessFlags := 18, nameIndex := 52, descriptorIndex := 53, attributes := #[] }, { accessFlags := 18, nameIndex := 56, descriptorIndex := 53, attributes := #[] }, { accessFlags := 4122, nameIndex := 33, descriptorIndex := 34, attributes := #[] }])
  fields := #[{ name := "GET_FIELD", type := (.object "com/example/linkstage/linkstage/classfile/ReferenceKind"), accessFlags := 16409, slot := 0, constantValue := 0 }, { name := "GET_STATIC", type := (.object "com/example/linkstage/linkstage/classfile/ReferenceKind"), accessFlags := 16409, slot := 1, constantValue := 0 }, { name := "PUT_FIELD", type := (.object "com/example/linkstage/linkstage/classfile/ReferenceKind"), accessFlags := 16409, slot := 2, constantValue := 0 }, { name := "PUT_STATIC", type := (.object "com/example/linkstage/linkstage/classfile/ReferenceKind"), accessFlags := 16409, slot := 3, constantValue := 0 }, { name := "INVOKE_VIRTUAL", type := (.object "com/example/linkstage/linkstage/classfile/ReferenceKind"), accessFlags := 16409, slot := 4, constantValue := 0 }, { name := "INVOKE_STATIC", type := (.object "com/example/linkstage/linkstage/classfile/ReferenceKind"), accessFlags := 16409, slot := 5, constantValue := 0 }, { name := "INVOKE_SPECIAL", type := (.object "com/example/linkstage/linkstage/classfile/ReferenceKind"), accessFlags := 16409, slot := 6, constantValue := 0 }, { name := "NEW_INVOKE_SPECIAL", type := (.object "com/example/linkstage/linkstage/classfile/ReferenceKind"), accessFlags := 16409, slot := 7, constantValue := 0 }, { name := "INVOKE_INTERFACE", type := (.object "com/example/linkstage/linkstage/classfile/ReferenceKind"), accessFlags := 16409, slot := 8, constantValue := 0 }, { name := "value", type := .int, accessFlags := 18, slot := 3, constantValue := 0 }, { name := "opcode", type := .int, accessFlags := 18, slot := 4, constantValue := 0 }, { name := "$VALUES", type := (.array (.object "com/example/linkstage/linkstage/classfile/ReferenceKind")), accessFlags := 4122, slot := 9, constantValue := 0 }]
  methods := #[k6m0]
  instanceTypes := #[(.object "java/lang/String"), .int, .int, .int, .int]
  staticTypes := #[(.object "com/example/linkstage/linkstage/classfile/ReferenceKind"), (.object "com/example/linkstage/linkstage/classfile/ReferenceKind"), (.object "com/example/linkstage/linkstage/classfile/ReferenceKind"), (.object "com/example/linkstage/linkstage/classfile/ReferenceKind"), (.object "com/example/linkstage/linkstage/classfile/ReferenceKind"), (.object "com/example/linkstage/linkstage/classfile/ReferenceKind"), (.object "com/example/linkstage/linkstage/classfile/ReferenceKind"), (.object "com/example/linkstage/linkstage/classfile/ReferenceKind"), (.object "com/example/linkstage/linkstage/classfile/ReferenceKind"), (.array (.object "com/example/linkstage/linkstage/classfile/ReferenceKind"))]
  resolved := Array.replicate 105 none
  statics := some 0 }

def pool7 : Array CpInfo := pool [(1, u "java/lang/Cloneable"), (0, .class_ 1), (0, u "java/lang/Object"), (0, .class_ 3)] 3

/-- java/lang/Cloneable -/
def k7 : Class := { plain "java/lang/Cloneable" (some 0) with
  accessFlags := 1537
  interfaces := #[]
  cf := some (fileOf pool7 2 #[] #[] 1537 4 #[] #[])
  fields := #[]
  methods := #[]
  instanceTypes := #[]
  staticTypes := #[]
  resolved := Array.replicate 8 none
  statics := none }

/-- the primitive byte -/
def k8 : Class := { plain "byte" none with kind := .primitive 'B', accessFlags := 0x411 }
/-- [B -/
def k9 : Class := { plain "[B" (some 0) with kind := .array 8 .byte, interfaces := #[7, 4], accessFlags := 1041 }

/-- the primitive int -/
def k10 : Class := { plain "int" none with kind := .primitive 'I', accessFlags := 0x411 }
/-- [I -/
def k11 : Class := { plain "[I" (some 0) with kind := .array 10 .int, interfaces := #[7, 4], accessFlags := 1041 }

def heap : Heap := #[{ cls := 6, slots := #[.ref 1, .ref 2, .ref 3, .ref 4, .ref 5, .ref 6, .ref 7, .ref 8, .ref 9, .null], vm := .statics 6 },
  { cls := 6, slots := #[.null, .int 0, .int 0, .int 1, .int 180], vm := .none },
  { cls := 6, slots := #[.null, .int 1, .int 0, .int 2, .int 178], vm := .none },
  { cls := 6, slots := #[.null, .int 2, .int 0, .int 3, .int 181], vm := .none },
  { cls := 6, slots := #[.null, .int 3, .int 0, .int 4, .int 179], vm := .none },
  { cls := 6, slots := #[.null, .int 4, .int 0, .int 5, .int 182], vm := .none },
  { cls := 6, slots := #[.null, .int 5, .int 0, .int 6, .int 184], vm := .none },
  { cls := 6, slots := #[.null, .int 6, .int 0, .int 7, .int 183], vm := .none },
  { cls := 6, slots := #[.null, .int 7, .int 0, .int 8, .int 183], vm := .none },
  { cls := 6, slots := #[.null, .int 8, .int 0, .int 9, .int 185], vm := .none }]
def classes : Array Class := #[k0, k1, k2, k3, k4, k5, k6, k7, k8, k9, k10, k11]
def interned : List (Array UInt16 × Addr) := []
def slotsUsed : Nat := 55
def theMethod : MethodId := ⟨1, 2⟩
def args0 : Array Value := #[.int 5]
def aboutOver (below : List Frame) : State where
  vm := { classes := classes, interned := interned.toArray }
  heap := heap
  slotsUsed := slotsUsed
  threads := #[{ frames := .invoking theMethod args0 :: below }]
def below0 : List Frame := [.native { method := ⟨0, 0⟩, args := #[] }]
def about1 : State := aboutOver below0
def p0 : Program := .bare "" "" ""
def e0 : Env := launch0.env 0 0 0
theorem w_frames : about1.frames = Frame.invoking theMethod args0 :: below0 := rfl
set_option maxRecDepth 65536 in
theorem w_args : argsFit about1.vm theMethod args0 = true := by decide +kernel
set_option maxRecDepth 65536 in
theorem w_heap : heapFits about1 = true := by decide +kernel
set_option maxRecDepth 65536 in
theorem w_runnable : about1.curStatus? = some .runnable := by decide +kernel
set_option maxRecDepth 65536 in
theorem w_alone : about1.alone = true := by decide +kernel
set_option maxRecDepth 65536 in
theorem w_named : about1.methodNamed? x = some theMethod := by decide +kernel
set_option maxRecDepth 65536 in
theorem w_hears : about1.hears theMethod below0 = true := by decide +kernel
set_option maxRecDepth 65536 in
theorem w_ripe : about1.ripe theMethod args0 below0 = true := by decide +kernel
theorem w_running : about1.status = .running := rfl
set_option maxRecDepth 65536 in
theorem w_room : about1.hasRoom e0.platform room_1 = true :=
  launch0.hasRoom_least _ room_1 (by decide +kernel) (by decide +kernel) (by decide +kernel) (by decide +kernel) (by decide +kernel) (by decide +kernel)
theorem allAtoms_all (ts : List Jvm.Cond) (a : Array Jvm.Value) (st : Jvm.State) : (allAtoms ts).before a st = ts.all (fun c => c.before a st) := by
  induction ts with
  | nil => rfl
  | cons c t ih =>
    show (Jvm.Cond.and c (allAtoms t)).before a st = _
    rw [Jvm.Cond.before_and, ih, List.all_cons]
def words1 : List Jvm.Cond := Jvm.Cond.code x code maxLocals ret :: tables_1
/-- a 'code' word, met by the world's own term for the bytes: nothing is compared byte by byte -/
theorem code_word {y : MethodName} {bytes : ByteArray} {mx : Nat} {rt : Option FieldType} {a : Array Value} {s : State} {m : MethodId} {meth : Method} {c : Code} (h1 : s.methodNamed? y = some m) (h2 : s.vm.method? m = some meth) (h3 : meth.code = some c) (h4 : c.code = bytes)
    (h5 : (c.maxLocals == mx && c.exceptionTable.isEmpty && decide (c.maxStack ≤ mostOperands) && decide (meth.sig.returnType = rt) && !meth.locks && decide (parseMethodDescriptor y.desc = some meth.sig)) = true) : (Jvm.Cond.code y bytes mx rt).before a s = true := by
  simp only [Bool.and_eq_true, beq_iff_eq, Bool.not_eq_true', decide_eq_true_eq] at h5
  obtain ⟨⟨⟨⟨⟨g1, g2⟩, g3⟩, g4⟩, g5⟩, g6⟩ := h5
  simp [Cond.before, Cond.holds, Cond.value, h1, h2, h3, h4, g1, g2, g3, g4, g5, g6]
def isCode : Jvm.Cond → Bool
  | .code _ _ _ _ => true
  | _ => false
theorem all_split {L : List Jvm.Cond} {P : Jvm.Cond → Bool} (h1 : L.all (fun c => isCode c || P c) = true) (h2 : ∀ c ∈ L.filter isCode, P c = true) : L.all P = true := by
  refine List.all_eq_true.mpr fun c hc => ?_
  have h := List.all_eq_true.mp h1 c hc
  rcases Bool.eq_false_or_eq_true (isCode c) with hi | hi
  · exact h2 c (List.mem_filter.mpr ⟨hc, hi⟩)
  · simpa [hi] using h
set_option maxRecDepth 65536 in
theorem w_c0 : (Jvm.Cond.code x code maxLocals ret).before args0 about1 = true := code_word (m := ⟨1, 2⟩) (meth := k1m2) (c := k1c2) (by decide +kernel) rfl rfl rfl (by decide +kernel)
set_option maxRecDepth 65536 in
theorem w_c1 : (Jvm.Cond.code ({ cls := "com/example/linkstage/linkstage/classfile/ReferenceKindIsFieldPinLaw", name := "pick", desc := "(I)Lcom/example/linkstage/linkstage/classfile/ReferenceKind;" } : Jvm.MethodName) method_2_code (1 : Nat) (Option.some (Jvm.ClassFile.FieldType.object "com/example/linkstage/linkstage/classfile/ReferenceKind"))).before args0 about1 = true := code_word (m := ⟨1, 1⟩) (meth := k1m1) (c := k1c1) (by decide +kernel) rfl rfl rfl (by decide +kernel)
set_option maxRecDepth 65536 in
theorem w_c2 : (Jvm.Cond.code ({ cls := "com/example/linkstage/linkstage/classfile/ReferenceKind", name := "isField", desc := "()Z" } : Jvm.MethodName) prog_27_method_7_code (1 : Nat) (Option.some Jvm.ClassFile.FieldType.boolean)).before args0 about1 = true := code_word (m := ⟨6, 0⟩) (meth := k6m0) (c := k6c0) (by decide +kernel) rfl rfl rfl (by decide +kernel)
def codes1 : List Jvm.Cond := [Jvm.Cond.code x code maxLocals ret, Jvm.Cond.code ({ cls := "com/example/linkstage/linkstage/classfile/ReferenceKindIsFieldPinLaw", name := "pick", desc := "(I)Lcom/example/linkstage/linkstage/classfile/ReferenceKind;" } : Jvm.MethodName) method_2_code (1 : Nat) (Option.some (Jvm.ClassFile.FieldType.object "com/example/linkstage/linkstage/classfile/ReferenceKind")), Jvm.Cond.code ({ cls := "com/example/linkstage/linkstage/classfile/ReferenceKind", name := "isField", desc := "()Z" } : Jvm.MethodName) prog_27_method_7_code (1 : Nat) (Option.some Jvm.ClassFile.FieldType.boolean)]
set_option maxRecDepth 65536 in
theorem codes_eq : words1.filter isCode = codes1 := rfl
theorem w_codes : ∀ c ∈ words1.filter isCode, c.before args0 about1 = true := by
  rw [codes_eq]
  intro c hc
  simp only [codes1, List.mem_cons, List.not_mem_nil, or_false] at hc
  rcases hc with rfl | rfl | rfl
  · exact w_c0
  · exact w_c1
  · exact w_c2
set_option maxRecDepth 65536 in
theorem w_t1 : (words1.take 24).all (fun c => isCode c || c.before args0 about1) = true := by decide +kernel
set_option maxRecDepth 65536 in
theorem w_t2 : (words1.drop 24).all (fun c => isCode c || c.before args0 about1) = true := by decide +kernel
theorem w_tables : (allAtoms (Jvm.Cond.code x code maxLocals ret :: tables_1)).before args0 about1 = true := by
  rw [allAtoms_all]
  show words1.all (fun c => c.before args0 about1) = true
  refine all_split ?_ w_codes
  rw [← List.take_append_drop 24 words1, List.all_append, w_t1, w_t2]
  rfl
set_option maxRecDepth 65536 in
theorem w_case : (Jvm.Cond.and given_1 narrow_1).before args0 about1 = true := by decide +kernel
theorem w_applies : (headSpec (Jvm.Cond.code x code maxLocals ret :: tables_1) room_1).applies x e0.platform about1 = true :=
  (Spec.applies_iff w_frames).mpr ⟨w_running, w_runnable, w_alone, w_named, w_hears, w_ripe, w_room, w_tables⟩
theorem atStart : AtStart classFile x code maxLocals ret World_1 tables_1 room_1 Calls_1 rest_1 Pre_1 launch0 p0 e0 about1 theMethod args0 below0 :=
  ⟨lists_1, trivial, launch0.admits_env _ _ _, launch0.least_env, fairChoices_fair.cas, fairChoices_fair.clock, w_frames, w_args, w_heap, w_applies, trivial, trivial, w_case⟩
end start1
theorem witness_1 : WitnessClaimed_1 := ⟨start1.p0, start1.e0, start1.about1, start1.theMethod, start1.args0, start1.below0, start1.atStart⟩
end Jvm.Pilot.@@N@@
