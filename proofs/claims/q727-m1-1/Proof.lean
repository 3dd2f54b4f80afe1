import JvmDerived
import JvmDerived.Pilot.@@N@@Statement
import JvmDerived.Pilot.@@N@@Code
set_option linter.unusedVariables false
set_option linter.unusedSimpArgs false
namespace Jvm.Pilot.@@N@@
open Jvm Jvm.ClassFile Sem Op Lib Jvm.Free Jvm.Stand Jvm.LawKit Jvm.RoadKit Bundle Jvm.Pilot.@@N@@.Jvm.D
section Own
variable {p : Program} {l : Launch} {e : Env} {R : Room} {s : State} {m : MethodId} {args : Array Value} {below : List Frame} {meth : Method} {c : Code} {T : State} {locs : List Loc} {cells slots : Nat}
/-- from U the run comes to an end of which Q holds -/
def OwnEnds (tb : Tables) (e : Env) (below : List Frame) (Q : Outcome → State → Prop) (U : State) : Prop :=
  ∃ s₂ o, Steps tb e below U s₂ ∧ s₂.status = .running ∧ Ended s₂ below o ∧ Q o s₂
abbrev OwnQ (s : State) (K N : Nat) (Q : Option Value → Heap → List Loc → Prop) : Outcome → State → Prop :=
  fun o U => ∃ v L, o = .returned v ∧ Q v U.heap L ∧ FrameEnd s o U L K N
theorem own_via {tb : Tables} {Q : Outcome → State → Prop} {U U' : State} (h : ∀ t, Steps tb e below U' t → Steps tb e below U t) (k : OwnEnds tb e below Q U') : OwnEnds tb e below Q U := by
  obtain ⟨s₂, o, h1, h2⟩ := k
  exact ⟨s₂, o, h _ h1, h2⟩
theorem own_of {tb : Tables} {Q : Outcome → State → Prop} {U U' : State} (h : Steps tb e below U U') (k : OwnEnds tb e below Q U') : OwnEnds tb e below Q U :=
  own_via (fun _ q => h.trans q) k
theorem own_wide {K N : Nat} (X : Stand p l e R s m args below meth c T locs cells slots) (h1 : cells ≤ K) (h2 : slots ≤ N) : Stand p l e R s m args below meth c T locs K N :=
  { X with same := X.same.mono h1 h2 }
theorem own_ret (X : Stand p l e R s m args below meth c T locs cells slots) {Q : Option Value → Heap → List Loc → Prop} {K N : Nat} {v : Option Value} (hv : meth.sig.returnType = none → v = none) (hlk : meth.locks = false) {f : JFrame}
    (st : ∀ fs, (∀ (f : JFrame) (acts : List Action), f.method = m → f.locked = none → f.entered = [] → (doReturn e (T.setTop f) acts v).1 = T.setFrames fs) → Steps p.tables e below (T.setTop f) (T.setFrames fs))
    (hQ : Q v T.heap locs) (hK : cells ≤ K) (hN : slots ≤ N) : OwnEnds p.tables e below (OwnQ s K N Q) (T.setTop f) := by
  obtain ⟨fs, hr, hrun, hended, hW, hsame⟩ := X.leave (v := v) hv hlk
  exact ⟨_, _, st fs hr, hrun, hended, _, _, rfl, hQ, ⟨_, rfl⟩, hW, hsame.mono hK hN⟩
theorem own_retI (X : Stand p l e R s m args below meth c T locs cells slots) (hx : p.tables.exec = Jvm.exec) {Q : Option Value → Heap → List Loc → Prop} {K N pc : Nat} {Ls : Array Slot} {z : Int32} {rest : List Value} (hret : meth.sig.returnType = some .int) (hlk : meth.locks = false) (hd : decode c.code pc = .ok (.ireturn, 1))
    (hQ : Q (some (.int z)) T.heap locs) (hK : cells ≤ K) (hN : slots ≤ N) : OwnEnds p.tables e below (OwnQ s K N Q) (T.setTop (mkF m pc Ls (.int z :: rest))) :=
  own_ret X (fun h => by rw [hret] at h; cases h) hlk (fun fs hl => retOut X hx hret rfl (Or.inl ⟨rfl, Or.inl rfl, z, rfl⟩) hd hl) hQ hK hN
theorem own_retN (X : Stand p l e R s m args below meth c T locs cells slots) (hx : p.tables.exec = Jvm.exec) {Q : Option Value → Heap → List Loc → Prop} {K N pc : Nat} {Ls : Array Slot} {z : Int32} {t : FieldType} {rest : List Value} (hret : meth.sig.returnType = some t) (ht : t = .boolean ∨ t = .byte ∨ t = .char ∨ t = .short) (hlk : meth.locks = false) (hd : decode c.code pc = .ok (.ireturn, 1))
    (hQ : Q (some (.int (nar t z))) T.heap locs) (hK : cells ≤ K) (hN : slots ≤ N) : OwnEnds p.tables e below (OwnQ s K N Q) (T.setTop (mkF m pc Ls (.int z :: rest))) :=
  own_ret X (fun h => by rw [hret] at h; cases h) hlk (fun fs hl => retN X hx hret ht hd hl) hQ hK hN
theorem own_retJ (X : Stand p l e R s m args below meth c T locs cells slots) (hx : p.tables.exec = Jvm.exec) {Q : Option Value → Heap → List Loc → Prop} {K N pc : Nat} {Ls : Array Slot} {z : Int64} {rest : List Value} (hret : meth.sig.returnType = some .long) (hlk : meth.locks = false) (hd : decode c.code pc = .ok (.lreturn, 1))
    (hQ : Q (some (.long z)) T.heap locs) (hK : cells ≤ K) (hN : slots ≤ N) : OwnEnds p.tables e below (OwnQ s K N Q) (T.setTop (mkF m pc Ls (.long z :: rest))) :=
  own_ret X (fun h => by rw [hret] at h; cases h) hlk (fun fs hl => retOut X hx hret rfl (Or.inr (Or.inl ⟨rfl, rfl, z, rfl⟩)) hd hl) hQ hK hN
theorem own_retA (X : Stand p l e R s m args below meth c T locs cells slots) (hx : p.tables.exec = Jvm.exec) {Q : Option Value → Heap → List Loc → Prop} {K N pc : Nat} {Ls : Array Slot} {w : Value} {t : FieldType} {rest : List Value} (hret : meth.sig.returnType = some t) (ht : t.isReference = true) (hw : w.isRef = true) (hlk : meth.locks = false) (hd : decode c.code pc = .ok (.areturn, 1))
    (hQ : Q (some w) T.heap locs) (hK : cells ≤ K) (hN : slots ≤ N) : OwnEnds p.tables e below (OwnQ s K N Q) (T.setTop (mkF m pc Ls (w :: rest))) :=
  own_ret X (fun h => by rw [hret] at h; cases h) hlk (fun fs hl => retOut X hx hret (by cases t <;> first | (cases ht; done) | (cases w <;> first | rfl | (cases hw; done))) (Or.inr (Or.inr (Or.inr (Or.inr ⟨rfl, ht, hw⟩)))) hd hl) hQ hK hN
theorem own_retV (X : Stand p l e R s m args below meth c T locs cells slots) (hx : p.tables.exec = Jvm.exec) {Q : Option Value → Heap → List Loc → Prop} {K N pc : Nat} {Ls : Array Slot} (hret : meth.sig.returnType = none) (hlk : meth.locks = false) (hd : decode c.code pc = .ok (.return_, 1))
    (hQ : Q none T.heap locs) (hK : cells ≤ K) (hN : slots ≤ N) : OwnEnds p.tables e below (OwnQ s K N Q) (T.setTop (mkF m pc Ls [])) :=
  own_ret X (fun _ => rfl) hlk (fun fs hl => X.returnOut hx hret hd hl) hQ hK hN
theorem own_lc_lt_t {x y : Int64} (h : x < y) : ifCond.holds .lt (lcmpW x y) = true ∧ ifCond.holds .ge (lcmpW x y) = false := by
  have q : lcmpW x y < 0 := by rw [lcW, lc_lt]; exact h
  exact ⟨(if0 _ _).trans (tlt q).1, (if0 _ _).trans (tlt q).2.1⟩
theorem own_lc_lt_f {x y : Int64} (h : ¬ (x < y)) : ifCond.holds .lt (lcmpW x y) = false ∧ ifCond.holds .ge (lcmpW x y) = true := by
  have q : ¬ lcmpW x y < 0 := by rw [lcW, lc_lt]; exact h
  exact ⟨(if0 _ _).trans (flt q).1, (if0 _ _).trans (flt q).2.1⟩
theorem own_lc_gt_t {x y : Int64} (h : y < x) : ifCond.holds .gt (lcmpW x y) = true ∧ ifCond.holds .le (lcmpW x y) = false := by
  have q : 0 < lcmpW x y := by rw [lcW, lc_gt]; exact h
  exact ⟨(if0 _ _).trans (tlt q).2.2.1, (if0 _ _).trans (tlt q).2.2.2⟩
theorem own_lc_gt_f {x y : Int64} (h : ¬ (y < x)) : ifCond.holds .gt (lcmpW x y) = false ∧ ifCond.holds .le (lcmpW x y) = true := by
  have q : ¬ 0 < lcmpW x y := by rw [lcW, lc_gt]; exact h
  exact ⟨(if0 _ _).trans (flt q).2.2.1, (if0 _ _).trans (flt q).2.2.2⟩
theorem own_lc_eq_t {x y : Int64} (h : x = y) : ifCond.holds .eq (lcmpW x y) = true ∧ ifCond.holds .ne (lcmpW x y) = false := by
  have q : lcmpW x y = 0 := by rw [lcW, lc_eq]; exact h
  exact ⟨(if0 _ _).trans (teq q).1, (if0 _ _).trans (teq q).2⟩
theorem own_lc_eq_f {x y : Int64} (h : ¬ (x = y)) : ifCond.holds .eq (lcmpW x y) = false ∧ ifCond.holds .ne (lcmpW x y) = true := by
  have q : ¬ lcmpW x y = 0 := by rw [lcW, lc_eq]; exact h
  exact ⟨(if0 _ _).trans (feq q).1, (if0 _ _).trans (feq q).2⟩
theorem own_lrem {g : JFrame} {target : State} (X : Stand p l e R s m args below meth c T locs cells slots) (hx : p.tables.exec = Jvm.exec) (hg : g.method = m) {x y : Int64} {rest : List Value} (hd : decode c.code g.pc = .ok (.lrem, 1)) (hs : g.stack = .long y :: .long x :: rest) (hy : y ≠ 0)
    (hr : Steps p.tables e below (T.setTop { g with pc := g.pc + 1, stack := .long (x % y) :: rest }) target) : Steps p.tables e below (T.setTop g) target := by
  have q : x - x / y * y = x % y := lrem_mod x y
  exact XS.lrem X.here hx hg hd hs hy (by rw [q]; exact hr)
theorem own_cat {w : Value} (h : w.isRef = true) : w.category = 1 := by rcases ref_cases h with rfl | ⟨a, rfl⟩ <;> rfl
theorem own_narR {w : Value} {t : FieldType} (ht : t.isReference = true) (h : w.isRef = true) : narrow t w = w := by
  cases t <;> first | (cases ht; done) | (rcases ref_cases h with rfl | ⟨a, rfl⟩ <;> rfl)
theorem own_fitR {w : Value} {t : FieldType} (ht : t.isReference = true) (h : w.isRef = true) : fits t w = true := by
  cases t <;> first | (cases ht; done) | (rcases ref_cases h with rfl | ⟨a, rfl⟩ <;> rfl)
theorem own_narb {c : Prop} [Decidable c] {r : Int32} (h : r = if c then 0 else 1) : nar .boolean r = r := by
  by_cases q : c
  · rw [if_pos q] at h; rw [h]; rfl
  · rw [if_neg q] at h; rw [h]; rfl
/-! arrays as lists of values -/
def AL (Z : State) (h : Heap) (a : Addr) (ty : FieldType) (xs : List Value) : Prop := ∃ c : Cell, Arr Z h a c ty ∧ c.slots.toList = xs ∧ xs.length < 2147483648
variable {Z : State} {h h' : Heap} {a b : Addr} {ty : FieldType} {xs : List Value} {sl : Nat} {v : Value} {ws : List Addr} {C n d : String}
theorem AL.lt (F : AL Z h a ty xs) : a < h.size := by obtain ⟨c, A, -⟩ := F; exact A.lt
theorem AL.ext (F : AL Z h a ty xs) (E : Ext h h') : AL Z h' a ty xs := by obtain ⟨c, A, r⟩ := F; exact ⟨c, A.ext E, r⟩
theorem AL.other (F : AL Z h a ty xs) (W : Wr h h' b sl v) (q : a ≠ b) : AL Z h' a ty xs := by obtain ⟨c, A, r⟩ := F; exact ⟨c, A.other W q, r⟩
theorem AL.keep (F : AL Z h a ty xs) (K : Keep h h' ws) (q : a ∉ ws) : AL Z h' a ty xs := by obtain ⟨c, A, r⟩ := F; exact ⟨c, ⟨K.2.1 a c A.1 q, A.2⟩, r⟩
theorem AL.new {k : ClassId} {z : Int32} (A : Arr Z h a (newA k ty z) ty) (q : ¬ z < 0) {i : Nat} (hi : z.toNatClampNeg = i) : AL Z h a ty (List.replicate i (defaultValue ty)) := by
  refine ⟨_, A, ?_, ?_⟩
  · simp [newA, hi]
  · rw [List.length_replicate, ← hi]; exact (back32 q).2
theorem AL.ne {C : String} (F : AL Z h a ty xs) (G : Exa Z h b C) {a0 : Array Value} {k : Nat} (wi : (Cond.instantiable C k).before a0 Z = true) : b ≠ a := by
  obtain ⟨c, A, -⟩ := F; exact ne_arr G wi A
theorem own_idx {cl : Cell} (hc : cl.slots.toList = xs) {j : Int32} {i : Nat} (hj : j.toInt = i) (hi : i < xs.length) : ¬ (j < 0 ∨ cl.slots.size ≤ j.toNatClampNeg) ∧ j.toNatClampNeg = i := by
  have h1 : j.toNatClampNeg = i := by simp only [Int32.toNatClampNeg, hj]; rfl
  have h2 : cl.slots.size = xs.length := by rw [← hc]; simp
  refine ⟨fun q => ?_, h1⟩
  rcases q with q | q
  · rw [Int32.lt_iff_toInt_lt, hj] at q; have e0 : (0 : Int32).toInt = 0 := rfl; omega
  · omega
theorem own_at {cl : Cell} (hc : cl.slots.toList = xs) {i : Nat} : cl.slots[i]? = xs[i]? := by rw [← hc]; simp
theorem AL.set {cl : Cell} (A : Arr Z h a cl ty) (hc : cl.slots.toList = xs) (hl : xs.length < 2147483648) {i : Nat} (W : Wr h h' a i v) : AL Z h' a ty (xs.set i v) := by
  refine ⟨_, A.same W, ?_, by simpa using hl⟩
  simp [Cell.setSlot, hc]
theorem own_stI (X : Stand p l e R s m args below meth c T locs cells slots) (hx : p.tables.exec = Jvm.exec) (hZ : Z.Warmed39 s.vm) (eT : T.heap = h) (A : AL Z h a .int xs) {j x : Int32} (i : Nat) (hj : j.toInt = i) (hi : i < xs.length) {g : JFrame} (hg : g.method = m) {rest : List Value} (hs : g.stack = .int x :: .int j :: .ref a :: rest) (hd : decode c.code g.pc = .ok (.iastore, 1)) :
    ∃ T' h', Stand p l e R s m args below meth c T' (locs ++ [⟨a, i⟩]) cells slots ∧ T'.heap = h' ∧ Wr h h' a i (.int x) ∧ AL Z h' a .int (xs.set i (.int x)) ∧ ∀ target, Steps p.tables e below (T'.setTop { g with pc := g.pc + 1, stack := rest }) target → Steps p.tables e below (T.setTop g) target := by
  obtain ⟨cl, A1, A2, A3⟩ := A
  obtain ⟨q1, q2⟩ := own_idx A2 hj hi
  obtain ⟨T', h', X', e', W, st⟩ := stI X hx hZ eT A1 q1 hg hs hd
  rw [q2] at X' W
  exact ⟨T', h', X', e', W, AL.set A1 A2 A3 W, st⟩
theorem own_stJ (X : Stand p l e R s m args below meth c T locs cells slots) (hx : p.tables.exec = Jvm.exec) (hZ : Z.Warmed39 s.vm) (eT : T.heap = h) (A : AL Z h a .long xs) {j : Int32} {x : Int64} (i : Nat) (hj : j.toInt = i) (hi : i < xs.length) {g : JFrame} (hg : g.method = m) {rest : List Value} (hs : g.stack = .long x :: .int j :: .ref a :: rest) (hd : decode c.code g.pc = .ok (.lastore, 1)) :
    ∃ T' h', Stand p l e R s m args below meth c T' (locs ++ [⟨a, i⟩]) cells slots ∧ T'.heap = h' ∧ Wr h h' a i (.long x) ∧ AL Z h' a .long (xs.set i (.long x)) ∧ ∀ target, Steps p.tables e below (T'.setTop { g with pc := g.pc + 1, stack := rest }) target → Steps p.tables e below (T.setTop g) target := by
  obtain ⟨cl, A1, A2, A3⟩ := A
  obtain ⟨q1, q2⟩ := own_idx A2 hj hi
  obtain ⟨T', h', X', e', W, st⟩ := stJ X hx hZ eT A1 q1 hg hs hd
  rw [q2] at X' W
  exact ⟨T', h', X', e', W, AL.set A1 A2 A3 W, st⟩
theorem own_stB (X : Stand p l e R s m args below meth c T locs cells slots) (hx : p.tables.exec = Jvm.exec) (hZ : Z.Warmed39 s.vm) (eT : T.heap = h) (A : AL Z h a .byte xs) {j x : Int32} (i : Nat) (hj : j.toInt = i) (hi : i < xs.length) {g : JFrame} (hg : g.method = m) {rest : List Value} (hs : g.stack = .int x :: .int j :: .ref a :: rest) (hd : decode c.code g.pc = .ok (.bastore, 1)) :
    ∃ T' h', Stand p l e R s m args below meth c T' (locs ++ [⟨a, i⟩]) cells slots ∧ T'.heap = h' ∧ Wr h h' a i (.int (nar .byte x)) ∧ AL Z h' a .byte (xs.set i (.int (nar .byte x))) ∧ ∀ target, Steps p.tables e below (T'.setTop { g with pc := g.pc + 1, stack := rest }) target → Steps p.tables e below (T.setTop g) target := by
  obtain ⟨cl, A1, A2, A3⟩ := A
  obtain ⟨q1, q2⟩ := own_idx A2 hj hi
  obtain ⟨T', h', X', e', W, st⟩ := stB X hx hZ eT A1 q1 hg hs hd
  rw [q2] at X' W
  exact ⟨T', h', X', e', W, AL.set A1 A2 A3 W, st⟩
theorem own_stZ (X : Stand p l e R s m args below meth c T locs cells slots) (hx : p.tables.exec = Jvm.exec) (hZ : Z.Warmed39 s.vm) (eT : T.heap = h) (A : AL Z h a .boolean xs) {j x : Int32} (i : Nat) (hj : j.toInt = i) (hi : i < xs.length) {g : JFrame} (hg : g.method = m) {rest : List Value} (hs : g.stack = .int x :: .int j :: .ref a :: rest) (hd : decode c.code g.pc = .ok (.bastore, 1)) :
    ∃ T' h', Stand p l e R s m args below meth c T' (locs ++ [⟨a, i⟩]) cells slots ∧ T'.heap = h' ∧ Wr h h' a i (.int (nar .boolean x)) ∧ AL Z h' a .boolean (xs.set i (.int (nar .boolean x))) ∧ ∀ target, Steps p.tables e below (T'.setTop { g with pc := g.pc + 1, stack := rest }) target → Steps p.tables e below (T.setTop g) target := by
  obtain ⟨cl, A1, A2, A3⟩ := A
  obtain ⟨q1, q2⟩ := own_idx A2 hj hi
  obtain ⟨T', h', X', e', W, st⟩ := stZ X hx hZ eT A1 q1 hg hs hd
  rw [q2] at X' W
  exact ⟨T', h', X', e', W, AL.set A1 A2 A3 W, st⟩
theorem own_stC (X : Stand p l e R s m args below meth c T locs cells slots) (hx : p.tables.exec = Jvm.exec) (hZ : Z.Warmed39 s.vm) (eT : T.heap = h) (A : AL Z h a .char xs) {j x : Int32} (i : Nat) (hj : j.toInt = i) (hi : i < xs.length) {g : JFrame} (hg : g.method = m) {rest : List Value} (hs : g.stack = .int x :: .int j :: .ref a :: rest) (hd : decode c.code g.pc = .ok (.castore, 1)) :
    ∃ T' h', Stand p l e R s m args below meth c T' (locs ++ [⟨a, i⟩]) cells slots ∧ T'.heap = h' ∧ Wr h h' a i (.int (nar .char x)) ∧ AL Z h' a .char (xs.set i (.int (nar .char x))) ∧ ∀ target, Steps p.tables e below (T'.setTop { g with pc := g.pc + 1, stack := rest }) target → Steps p.tables e below (T.setTop g) target := by
  obtain ⟨cl, A1, A2, A3⟩ := A
  obtain ⟨q1, q2⟩ := own_idx A2 hj hi
  obtain ⟨T', h', X', e', W, st⟩ := stC X hx hZ eT A1 q1 hg hs hd
  rw [q2] at X' W
  exact ⟨T', h', X', e', W, AL.set A1 A2 A3 W, st⟩
theorem own_lt_len {i : Nat} (hv : xs[i]? = some v) : i < xs.length := (List.getElem?_eq_some_iff.mp hv).1
theorem own_ldI (X : Stand p l e R s m args below meth c T locs cells slots) (hx : p.tables.exec = Jvm.exec) (hZ : Z.Warmed39 s.vm) (eT : T.heap = h) (A : AL Z h a .int xs) {j : Int32} (i : Nat) (hj : j.toInt = i) (hv : xs[i]? = some v) {g : JFrame} (hg : g.method = m) {rest : List Value} (hs : g.stack = .int j :: .ref a :: rest) (hd : decode c.code g.pc = .ok (.iaload, 1)) :
    ∀ target, Steps p.tables e below (T.setTop { g with pc := g.pc + 1, stack := v :: rest }) target → Steps p.tables e below (T.setTop g) target := by
  obtain ⟨cl, A1, A2, A3⟩ := A
  obtain ⟨q1, q2⟩ := own_idx A2 hj (own_lt_len hv)
  exact X.iaload hx (by rw [eT]; exact A1.1) (State.isArrayOf_alike hZ.alike A1.2.1) A1.2.2 q1 (by rw [q2, own_at A2]; exact hv) hg hs hd
theorem own_ldJ (X : Stand p l e R s m args below meth c T locs cells slots) (hx : p.tables.exec = Jvm.exec) (hZ : Z.Warmed39 s.vm) (eT : T.heap = h) (A : AL Z h a .long xs) {j : Int32} (i : Nat) (hj : j.toInt = i) (hv : xs[i]? = some v) {g : JFrame} (hg : g.method = m) {rest : List Value} (hs : g.stack = .int j :: .ref a :: rest) (hd : decode c.code g.pc = .ok (.laload, 1)) :
    ∀ target, Steps p.tables e below (T.setTop { g with pc := g.pc + 1, stack := v :: rest }) target → Steps p.tables e below (T.setTop g) target := by
  obtain ⟨cl, A1, A2, A3⟩ := A
  obtain ⟨q1, q2⟩ := own_idx A2 hj (own_lt_len hv)
  exact X.laload hx (by rw [eT]; exact A1.1) (State.isArrayOf_alike hZ.alike A1.2.1) A1.2.2 q1 (by rw [q2, own_at A2]; exact hv) hg hs hd
theorem own_ldB (X : Stand p l e R s m args below meth c T locs cells slots) (hx : p.tables.exec = Jvm.exec) (hZ : Z.Warmed39 s.vm) (eT : T.heap = h) (A : AL Z h a .byte xs) {j : Int32} (i : Nat) (hj : j.toInt = i) (hv : xs[i]? = some v) {g : JFrame} (hg : g.method = m) {rest : List Value} (hs : g.stack = .int j :: .ref a :: rest) (hd : decode c.code g.pc = .ok (.baload, 1)) :
    ∀ target, Steps p.tables e below (T.setTop { g with pc := g.pc + 1, stack := v :: rest }) target → Steps p.tables e below (T.setTop g) target := by
  obtain ⟨cl, A1, A2, A3⟩ := A
  obtain ⟨q1, q2⟩ := own_idx A2 hj (own_lt_len hv)
  exact X.baloadBytes hx (by rw [eT]; exact A1.1) (State.isArrayOf_alike hZ.alike A1.2.1) A1.2.2 q1 (by rw [q2, own_at A2]; exact hv) hg hs hd
theorem own_ldZ (X : Stand p l e R s m args below meth c T locs cells slots) (hx : p.tables.exec = Jvm.exec) (hZ : Z.Warmed39 s.vm) (eT : T.heap = h) (A : AL Z h a .boolean xs) {j : Int32} (i : Nat) (hj : j.toInt = i) (hv : xs[i]? = some v) {g : JFrame} (hg : g.method = m) {rest : List Value} (hs : g.stack = .int j :: .ref a :: rest) (hd : decode c.code g.pc = .ok (.baload, 1)) :
    ∀ target, Steps p.tables e below (T.setTop { g with pc := g.pc + 1, stack := v :: rest }) target → Steps p.tables e below (T.setTop g) target := by
  obtain ⟨cl, A1, A2, A3⟩ := A
  obtain ⟨q1, q2⟩ := own_idx A2 hj (own_lt_len hv)
  exact X.baloadBooleans hx (by rw [eT]; exact A1.1) (State.isArrayOf_alike hZ.alike A1.2.1) A1.2.2 q1 (by rw [q2, own_at A2]; exact hv) hg hs hd
theorem own_ldC (X : Stand p l e R s m args below meth c T locs cells slots) (hx : p.tables.exec = Jvm.exec) (hZ : Z.Warmed39 s.vm) (eT : T.heap = h) (A : AL Z h a .char xs) {j : Int32} (i : Nat) (hj : j.toInt = i) (hv : xs[i]? = some v) {g : JFrame} (hg : g.method = m) {rest : List Value} (hs : g.stack = .int j :: .ref a :: rest) (hd : decode c.code g.pc = .ok (.caload, 1)) :
    ∀ target, Steps p.tables e below (T.setTop { g with pc := g.pc + 1, stack := v :: rest }) target → Steps p.tables e below (T.setTop g) target := by
  obtain ⟨cl, A1, A2, A3⟩ := A
  obtain ⟨q1, q2⟩ := own_idx A2 hj (own_lt_len hv)
  exact X.caload hx (by rw [eT]; exact A1.1) (State.isArrayOf_alike hZ.alike A1.2.1) A1.2.2 q1 (by rw [q2, own_at A2]; exact hv) hg hs hd
theorem own_ldA (X : Stand p l e R s m args below meth c T locs cells slots) (hx : p.tables.exec = Jvm.exec) (hZ : Z.Warmed39 s.vm) (eT : T.heap = h) (A : AL Z h a ty xs) (hty : ty.isReference = true) {j : Int32} (i : Nat) (hj : j.toInt = i) (hv : xs[i]? = some v) {g : JFrame} (hg : g.method = m) {rest : List Value} (hs : g.stack = .int j :: .ref a :: rest) (hd : decode c.code g.pc = .ok (.aaload, 1)) :
    ∀ target, Steps p.tables e below (T.setTop { g with pc := g.pc + 1, stack := v :: rest }) target → Steps p.tables e below (T.setTop g) target := by
  obtain ⟨cl, A1, A2, A3⟩ := A
  obtain ⟨q1, q2⟩ := own_idx A2 hj (own_lt_len hv)
  exact X.aaload hx (by rw [eT]; exact A1.1) (State.isArrayOf_alike hZ.alike A1.2.1) hty A1.2.2 q1 (by rw [q2, own_at A2]; exact hv) hg hs hd
theorem own_len (X : Stand p l e R s m args below meth c T locs cells slots) (hx : p.tables.exec = Jvm.exec) (hZ : Z.Warmed39 s.vm) (eT : T.heap = h) (A : AL Z h a ty xs) {z : Int32} (hz : z.toInt = xs.length) {g : JFrame} (hg : g.method = m) {rest : List Value} (hs : g.stack = .ref a :: rest) (hd : decode c.code g.pc = .ok (.arraylength, 1)) :
    ∀ target, Steps p.tables e below (T.setTop { g with pc := g.pc + 1, stack := .int z :: rest }) target → Steps p.tables e below (T.setTop g) target := by
  obtain ⟨cl, A1, A2, A3⟩ := A
  have h2 : cl.slots.size = xs.length := by rw [← A2]; simp
  have e1 : cl.slots.size.toInt32 = z := Int32.toInt_inj.mp (by rw [len_toInt (by omega), hz, h2])
  intro target k
  exact X.arraylength hx (by rw [eT]; exact A1.1) (State.isArrayOf_alike hZ.alike A1.2.1) hg hs hd target (by rw [e1]; exact k)
end Own

theorem own_nar1 : nar .boolean (1 : Int32) = 1 := rfl
theorem own_nar0 : nar .boolean (0 : Int32) = 0 := rfl
def own_minI (x y : Int32) : Int32 := if y < x then y else x
def own_maxI (x y : Int32) : Int32 := if x < y then y else x
def own_by (bits : Int32) : Nat → Int32
  | 0 => nar .byte (bits.toInt8.toInt32)
  | 1 => nar .byte (((bits.toUInt32 >>> ((8 : Int32) &&& 31).toUInt32).toInt32).toInt8.toInt32)
  | 2 => nar .byte (((bits.toUInt32 >>> ((16 : Int32) &&& 31).toUInt32).toInt32).toInt8.toInt32)
  | _ => nar .byte (((bits.toUInt32 >>> ((24 : Int32) &&& 31).toUInt32).toInt32).toInt8.toInt32)
def own_bl (bits : Int32) (n : Nat) : List Value := (List.range n).map fun k => .int (own_by bits k)
theorem own_bll (bits : Int32) (n : Nat) : (own_bl bits n).length = n := by simp [own_bl]
theorem own_bat (bits : Int32) {n k : Nat} (h : k < n) : (own_bl bits n)[k]? = some (.int (own_by bits k)) := by simp [own_bl, h]
def own_f (q nn bits : Int32) : Int32 := if q / 8 < nn then (if own_by bits (q / 8).toNatClampNeg &&& (((128 : Int32).toUInt32 >>> ((q % 8) &&& 31).toUInt32).toInt32) = 0 then 0 else 1) else 0
def own_ref (q nn bits : Int32) : Int32 := if ((q.toUInt32 >>> ((3 : Int32) &&& 31).toUInt32).toInt32) < nn then (if ((bits.toUInt32 >>> (((8 * ((q.toUInt32 >>> ((3 : Int32) &&& 31).toUInt32).toInt32)) + 7 - (q &&& 7)) &&& 31).toUInt32).toInt32) &&& 1 = 0 then 0 else 1) else 0
theorem own_and (x y : Int32) (i : Nat) (hi : i < 32) (hy : y.toBitVec = BitVec.twoPow 32 i) : x &&& y = 0 ↔ x.toBitVec.getLsbD i = false := by
  rw [← Int32.toBitVec_inj, Int32.toBitVec_and, hy, BitVec.and_twoPow]
  cases h : x.toBitVec.getLsbD i
  · simp
  · simp only [if_true]
    refine ⟨fun q => ?_, fun q => by cases q⟩
    have := congrArg (fun z => BitVec.getLsbD z i) q
    simp [BitVec.getLsbD_twoPow, hi] at this
theorem own_shr (x q : Int32) (n i : Nat) (hq : ((q &&& 31).toUInt32.toBitVec % 32#32).toNat = n) : ((x.toUInt32 >>> (q &&& 31).toUInt32).toInt32).toBitVec.getLsbD i = x.toBitVec.getLsbD (n + i) := by
  have h : ((x.toUInt32 >>> (q &&& 31).toUInt32).toInt32).toBitVec = x.toBitVec >>> n := by
    show (x.toUInt32 >>> (q &&& 31).toUInt32).toBitVec = _
    rw [UInt32.toBitVec_shiftRight, BitVec.ushiftRight_eq', ]
    rw [show ((q &&& 31).toUInt32.toBitVec % (32 : BitVec 32)).toNat = n from hq]; rfl
  rw [h, BitVec.getLsbD_ushiftRight]
theorem own_nb (x : Int32) (i : Nat) (hi : i < 8) : (x.toInt8.toInt32).toBitVec.getLsbD i = x.toBitVec.getLsbD i := by
  simp only [Int8.toBitVec_toInt32, Int32.toBitVec_toInt8, BitVec.getLsbD_signExtend]
  simp [hi, show i < 32 by omega]
theorem own_byb (bits : Int32) (k i : Nat) (hk : k < 4) (hi : i < 8) : (own_by bits k).toBitVec.getLsbD i = bits.toBitVec.getLsbD (8 * k + i) := by
  match k, hk with
  | 0, _ =>
    show ((bits.toInt8.toInt32).toInt8.toInt32).toBitVec.getLsbD i = _
    rw [own_nb _ _ hi, own_nb _ _ hi]; simp
  | 1, _ =>
    show ((((bits.toUInt32 >>> ((8 : Int32) &&& 31).toUInt32).toInt32).toInt8.toInt32).toInt8.toInt32).toBitVec.getLsbD i = _
    rw [own_nb _ _ hi, own_nb _ _ hi, own_shr bits 8 8 i (by decide)]
  | 2, _ =>
    show ((((bits.toUInt32 >>> ((16 : Int32) &&& 31).toUInt32).toInt32).toInt8.toInt32).toInt8.toInt32).toBitVec.getLsbD i = _
    rw [own_nb _ _ hi, own_nb _ _ hi, own_shr bits 16 16 i (by decide)]
  | 3, _ =>
    show ((((bits.toUInt32 >>> ((24 : Int32) &&& 31).toUInt32).toInt32).toInt8.toInt32).toInt8.toInt32).toBitVec.getLsbD i = _
    rw [own_nb _ _ hi, own_nb _ _ hi, own_shr bits 24 24 i (by decide)]
theorem own_one (bits : Int32) (k i : Nat) {y q : Int32} (hk : k < 4) (hi : i < 8) (hy : y.toBitVec = BitVec.twoPow 32 i) (hq : ((q &&& 31).toUInt32.toBitVec % 32#32).toNat = 8 * k + i) :
    own_by bits k &&& y = 0 ↔ ((bits.toUInt32 >>> (q &&& 31).toUInt32).toInt32) &&& 1 = 0 := by
  rw [own_and _ y i (by omega) hy, own_and _ 1 0 (by decide) (by decide), own_byb bits k i hk hi, own_shr bits q (8 * k + i) 0 hq, Nat.add_zero]
theorem own_core (bits k j : Int32) (hk : k = 0 ∨ k = 1 ∨ k = 2 ∨ k = 3) (hj : j = 0 ∨ j = 1 ∨ j = 2 ∨ j = 3 ∨ j = 4 ∨ j = 5 ∨ j = 6 ∨ j = 7) :
    (own_by bits k.toNatClampNeg &&& (((128 : Int32).toUInt32 >>> (j &&& 31).toUInt32).toInt32) = 0 ↔ ((bits.toUInt32 >>> ((8 * k + 7 - j) &&& 31).toUInt32).toInt32) &&& 1 = 0) := by
  rcases hk with rfl | rfl | rfl | rfl <;> rcases hj with rfl | rfl | rfl | rfl | rfl | rfl | rfl | rfl
  · exact own_one bits 0 7 (by decide) (by decide) (by decide) (by decide)
  · exact own_one bits 0 6 (by decide) (by decide) (by decide) (by decide)
  · exact own_one bits 0 5 (by decide) (by decide) (by decide) (by decide)
  · exact own_one bits 0 4 (by decide) (by decide) (by decide) (by decide)
  · exact own_one bits 0 3 (by decide) (by decide) (by decide) (by decide)
  · exact own_one bits 0 2 (by decide) (by decide) (by decide) (by decide)
  · exact own_one bits 0 1 (by decide) (by decide) (by decide) (by decide)
  · exact own_one bits 0 0 (by decide) (by decide) (by decide) (by decide)
  · exact own_one bits 1 7 (by decide) (by decide) (by decide) (by decide)
  · exact own_one bits 1 6 (by decide) (by decide) (by decide) (by decide)
  · exact own_one bits 1 5 (by decide) (by decide) (by decide) (by decide)
  · exact own_one bits 1 4 (by decide) (by decide) (by decide) (by decide)
  · exact own_one bits 1 3 (by decide) (by decide) (by decide) (by decide)
  · exact own_one bits 1 2 (by decide) (by decide) (by decide) (by decide)
  · exact own_one bits 1 1 (by decide) (by decide) (by decide) (by decide)
  · exact own_one bits 1 0 (by decide) (by decide) (by decide) (by decide)
  · exact own_one bits 2 7 (by decide) (by decide) (by decide) (by decide)
  · exact own_one bits 2 6 (by decide) (by decide) (by decide) (by decide)
  · exact own_one bits 2 5 (by decide) (by decide) (by decide) (by decide)
  · exact own_one bits 2 4 (by decide) (by decide) (by decide) (by decide)
  · exact own_one bits 2 3 (by decide) (by decide) (by decide) (by decide)
  · exact own_one bits 2 2 (by decide) (by decide) (by decide) (by decide)
  · exact own_one bits 2 1 (by decide) (by decide) (by decide) (by decide)
  · exact own_one bits 2 0 (by decide) (by decide) (by decide) (by decide)
  · exact own_one bits 3 7 (by decide) (by decide) (by decide) (by decide)
  · exact own_one bits 3 6 (by decide) (by decide) (by decide) (by decide)
  · exact own_one bits 3 5 (by decide) (by decide) (by decide) (by decide)
  · exact own_one bits 3 4 (by decide) (by decide) (by decide) (by decide)
  · exact own_one bits 3 3 (by decide) (by decide) (by decide) (by decide)
  · exact own_one bits 3 2 (by decide) (by decide) (by decide) (by decide)
  · exact own_one bits 3 1 (by decide) (by decide) (by decide) (by decide)
  · exact own_one bits 3 0 (by decide) (by decide) (by decide) (by decide)
theorem own_eq {q nn bits : Int32} (hq : 0 ≤ q.toInt ∧ q.toInt ≤ 65535) (hn : nn.toInt ≤ 4) : nar .boolean (own_f q nn bits) = own_ref q nn bits := by
  have d1 := (c_idiv q 8 8 rfl (by decide)).1 hq.1
  have d2 := c_iushr q 3 3 (by decide) (by decide)
  have d3 := (c_irem q 8 8 rfl).1 hq.1
  have d4 := c_mask q 7 3 (by decide) (by decide)
  have e8 : ((2 ^ 3 : Nat) : Int) = 8 := rfl
  rw [e8] at d2 d4
  have s1 : ((q.toUInt32 >>> ((3 : Int32) &&& 31).toUInt32).toInt32) = q / 8 := Int32.toInt_inj.mp (by rw [d1, d2]; omega)
  have s2 : q &&& 7 = q % 8 := Int32.toInt_inj.mp (by rw [d3, d4])
  unfold own_f own_ref
  rw [s1, s2]
  by_cases c : q / 8 < nn
  · rw [if_pos c, if_pos c]
    have c' := c
    rw [Int32.lt_iff_toInt_lt] at c'
    have k4 : q / 8 = 0 ∨ q / 8 = 1 ∨ q / 8 = 2 ∨ q / 8 = 3 := by
      simp only [← Int32.toInt_inj, Int32.reduceToInt]; omega
    have j8 : q % 8 = 0 ∨ q % 8 = 1 ∨ q % 8 = 2 ∨ q % 8 = 3 ∨ q % 8 = 4 ∨ q % 8 = 5 ∨ q % 8 = 6 ∨ q % 8 = 7 := by
      simp only [← Int32.toInt_inj, Int32.reduceToInt]; omega
    have z := own_core bits (q / 8) (q % 8) k4 j8
    by_cases w : own_by bits (q / 8).toNatClampNeg &&& (((128 : Int32).toUInt32 >>> ((q % 8) &&& 31).toUInt32).toInt32) = 0
    · rw [if_pos w, if_pos (z.mp w)]; rfl
    · rw [if_neg w, if_neg (fun u => w (z.mpr u))]; rfl
  · rw [if_neg c, if_neg c]; rfl
theorem own_msk {x m : Int32} {c : Prop} [Decidable c] (h : m = if c then 65535 else 63) : 0 ≤ (x &&& m).toInt ∧ (x &&& m).toInt ≤ 65535 := by
  have e1 : (65535 : Int32).toInt = 65535 := rfl
  have e2 : (63 : Int32).toInt = 63 := rfl
  by_cases q : c
  · rw [if_pos q] at h; subst h
    have := c_and x 65535 (by decide); omega
  · rw [if_neg q] at h; subst h
    have := c_and x 63 (by decide); omega
theorem own_min {x y : Int32} (h1 : 0 ≤ x.toInt ∧ x.toInt ≤ 65535) (h2 : 0 ≤ y.toInt ∧ y.toInt ≤ 65535) : 0 ≤ (own_minI x y).toInt ∧ (own_minI x y).toInt ≤ 65535 := by
  unfold own_minI; by_cases c : y < x
  · rw [if_pos c]; exact h2
  · rw [if_neg c]; exact h1
theorem own_max {x y : Int32} (h1 : 0 ≤ x.toInt ∧ x.toInt ≤ 65535) (h2 : 0 ≤ y.toInt ∧ y.toInt ≤ 65535) : 0 ≤ (own_maxI x y).toInt ∧ (own_maxI x y).toInt ≤ 65535 := by
  unfold own_maxI; by_cases c : x < y
  · rw [if_pos c]; exact h2
  · rw [if_neg c]; exact h1
theorem own_nn {x nn : Int32} (h : nn = (x &&& 2147483647) % 5) : ∃ n : Nat, nn.toInt = n ∧ n ≤ 4 := by
  have h1 := c_and x 2147483647 (by decide)
  have h2 := (c_irem (x &&& 2147483647) 5 5 rfl).1 h1.1
  exact ⟨nn.toInt.toNat, by rw [h]; omega, by rw [h]; omega⟩
theorem own_n5 {q : Int32} {n : Nat} (h : q.toInt = n) (h2 : n ≤ 4) : (q = 0 ∧ n = 0) ∨ (q = 1 ∧ n = 1) ∨ (q = 2 ∧ n = 2) ∨ (q = 3 ∧ n = 3) ∨ (q = 4 ∧ n = 4) := by
  simp only [← Int32.toInt_inj, Int32.reduceToInt, h]; omega
theorem own_kd {q nn : Int32} {n : Nat} (hq : 0 ≤ q.toInt ∧ q.toInt ≤ 65535) (hn : nn.toInt = n) (c : q / 8 < nn) : (q / 8).toInt = (q / 8).toNatClampNeg ∧ (q / 8).toNatClampNeg < n := by
  have d1 := (c_idiv q 8 8 rfl (by decide)).1 hq.1
  rw [Int32.lt_iff_toInt_lt] at c
  simp only [Int32.toNatClampNeg]; omega
theorem d1_0 : decode jdk_29_method_69_code 0 = .ok (.iload_n 0, 1) := by decide +kernel
theorem d1_1 : decode jdk_29_method_69_code 1 = .ok (.iload_n 1, 1) := by decide +kernel
theorem d1_2 : decode jdk_29_method_69_code 2 = .ok (.if_icmp .gt 7, 3) := by decide +kernel
theorem d1_5 : decode jdk_29_method_69_code 5 = .ok (.iload_n 0, 1) := by decide +kernel
theorem d1_6 : decode jdk_29_method_69_code 6 = .ok (.goto 4, 3) := by decide +kernel
theorem d1_9 : decode jdk_29_method_69_code 9 = .ok (.iload_n 1, 1) := by decide +kernel
theorem d1_10 : decode jdk_29_method_69_code 10 = .ok (.ireturn, 1) := by decide +kernel
theorem ef_1 (m : MethodId) (p0 : Int32) (p1 : Int32) : entryFrame m #[(.int p0), (.int p1)] 2 = mkF m 0 #[.val (.int p0), .val (.int p1)] [] := by first | (simp [entryFrame, mkF, argsToLocals, Value.category]; done) | rfl
def Q1 (Z : State) (p0 : Int32) (p1 : Int32) (h0 : Heap) (n0 : Nat) (v : Option Value) (h : Heap) (L : List Loc) : Prop := v = some (.int (own_minI p0 p1)) ∧ Fr n0 L ∧ h = h0
set_option maxRecDepth 65536 in
set_option maxHeartbeats 40000000 in
theorem rm1 (l : Launch) (Z : State) (aw : Array Value) (hw : ∀ d ∈ tables_1, d.before aw Z = true) (ws : List Jvm.Cond) (p0 : Int32) (p1 : Int32) (h0 : Heap) (n0 : Nat) (Z0 : n0 ≤ h0.size) :
    MetFree l (⟨"java/lang/Math", "min", "(II)I"⟩ : MethodName) (head1 (Jvm.Cond.code (⟨"java/lang/Math", "min", "(II)I"⟩ : MethodName) jdk_29_method_69_code 2 (some .int) :: ws) ({ frames := 0, cells := 0, slots := 0, locals := 0 } : Room)) (fun a U => a = #[(.int p0), (.int p1)] ∧ Z.Warmed39 U.vm ∧ U.heap = h0) (fun _ _ _ _ _ => True) (fun _ U o U' => ∃ v L, o = .returned v ∧ Q1 Z p0 p1 h0 n0 v U'.heap L ∧ FrameEnd U o U' L ({ frames := 0, cells := 0, slots := 0, locals := 0 } : Room).cells ({ frames := 0, cells := 0, slots := 0, locals := 0 } : Room).slots) := by
  refine MetFree.of_bodySF (Jvm.Free.JP.mathPlain rfl (by decide +kernel)) hisR ?_
  intro p e s m args below meth c s₁ Bd hml0 hP hK
  obtain ⟨rfl, hZ, hh⟩ := hP
  have hx := Bd.exec
  have hby := Bd.bytes
  have hml : c.maxLocals = 2 := hml0
  have hown : s.vm.findClass "java/lang/Math" = some m.cls := findClass_of_methodNamed Bd.named
  have hnm := (name_of_methodNamed Bd.named Bd.method).1
  have hlk : meth.locks = false := Bd.notSynchronized
  have X0 : Stand p l e ({ frames := 0, cells := 0, slots := 0, locals := 0 } : Room) s m #[(.int p0), (.int p1)] below meth c s₁ [] 0 0 := Stand.of_body Bd
  have e0 : s₁.heap = h0 := by rw [← hh, Bd.state]; rfl
  have N0 := Fr.nil n0
  show OwnEnds p.tables e below (OwnQ s ({ frames := 0, cells := 0, slots := 0, locals := 0 } : Room).cells ({ frames := 0, cells := 0, slots := 0, locals := 0 } : Room).slots (Q1 Z p0 p1 h0 n0)) (s₁.setTop (entryFrame m #[(.int p0), (.int p1)] 2))
  refine own_via (fun t k => castTop (ef_1 m p0 p1) k) ?_
  show OwnEnds p.tables e below _ (s₁.setTop (mkF m 0 #[.val (.int p0), .val (.int p1)] []))
  refine own_via (fun t k => XS.iloadN X0.here hx rfl (hb hby d1_0) rfl k) ?_
  show OwnEnds p.tables e below _ (s₁.setTop (mkF m 1 #[.val (.int p0), .val (.int p1)] [(.int p0)]))
  refine own_via (fun t k => XS.iloadN X0.here hx rfl (hb hby d1_1) rfl k) ?_
  show OwnEnds p.tables e below _ (s₁.setTop (mkF m 2 #[.val (.int p0), .val (.int p1)] [(.int p1), (.int p0)]))
  by_cases hc2_1 : p1 < p0
  · skip
    refine own_via (fun t k => XS.icmpYes X0.here hx rfl (pc0 := 2) (pc' := 9) rfl (hb hby d1_2) rfl (tlt hc2_1).2.2.1 (by decide) (by decide) k) ?_
    show OwnEnds p.tables e below _ (s₁.setTop (mkF m 9 #[.val (.int p0), .val (.int p1)] []))
    refine own_via (fun t k => XS.iloadN X0.here hx rfl (hb hby d1_9) rfl k) ?_
    show OwnEnds p.tables e below _ (s₁.setTop (mkF m 10 #[.val (.int p0), .val (.int p1)] [(.int p1)]))
    refine own_retI X0 hx Bd.returns hlk (hb hby d1_10) ?_ (by decide) (by decide)
    rw [e0]
    exact ⟨congrArg (fun z => some (Value.int z)) (show p1 = own_minI p0 p1 by simp only [own_minI, if_pos hc2_1]), N0, rfl⟩
  · skip
    refine own_via (fun t k => XS.icmpNo X0.here hx rfl (hb hby d1_2) rfl (flt hc2_1).2.2.1 k) ?_
    show OwnEnds p.tables e below _ (s₁.setTop (mkF m 5 #[.val (.int p0), .val (.int p1)] []))
    refine own_via (fun t k => XS.iloadN X0.here hx rfl (hb hby d1_5) rfl k) ?_
    show OwnEnds p.tables e below _ (s₁.setTop (mkF m 6 #[.val (.int p0), .val (.int p1)] [(.int p0)]))
    refine own_via (fun t k => XS.goto X0.here hx rfl (pc0 := 6) (pc' := 10) rfl (hb hby d1_6) (by decide) (by decide) k) ?_
    show OwnEnds p.tables e below _ (s₁.setTop (mkF m 10 #[.val (.int p0), .val (.int p1)] [(.int p0)]))
    refine own_retI X0 hx Bd.returns hlk (hb hby d1_10) ?_ (by decide) (by decide)
    rw [e0]
    exact ⟨congrArg (fun z => some (Value.int z)) (show p0 = own_minI p0 p1 by simp only [own_minI, if_neg hc2_1]), N0, rfl⟩
theorem d2_0 : decode jdk_29_method_65_code 0 = .ok (.iload_n 0, 1) := by decide +kernel
theorem d2_1 : decode jdk_29_method_65_code 1 = .ok (.iload_n 1, 1) := by decide +kernel
theorem d2_2 : decode jdk_29_method_65_code 2 = .ok (.if_icmp .lt 7, 3) := by decide +kernel
theorem d2_5 : decode jdk_29_method_65_code 5 = .ok (.iload_n 0, 1) := by decide +kernel
theorem d2_6 : decode jdk_29_method_65_code 6 = .ok (.goto 4, 3) := by decide +kernel
theorem d2_9 : decode jdk_29_method_65_code 9 = .ok (.iload_n 1, 1) := by decide +kernel
theorem d2_10 : decode jdk_29_method_65_code 10 = .ok (.ireturn, 1) := by decide +kernel
theorem ef_2 (m : MethodId) (p0 : Int32) (p1 : Int32) : entryFrame m #[(.int p0), (.int p1)] 2 = mkF m 0 #[.val (.int p0), .val (.int p1)] [] := by first | (simp [entryFrame, mkF, argsToLocals, Value.category]; done) | rfl
def Q2 (Z : State) (p0 : Int32) (p1 : Int32) (h0 : Heap) (n0 : Nat) (v : Option Value) (h : Heap) (L : List Loc) : Prop := v = some (.int (own_maxI p0 p1)) ∧ Fr n0 L ∧ h = h0
set_option maxRecDepth 65536 in
set_option maxHeartbeats 40000000 in
theorem rm2 (l : Launch) (Z : State) (aw : Array Value) (hw : ∀ d ∈ tables_1, d.before aw Z = true) (ws : List Jvm.Cond) (p0 : Int32) (p1 : Int32) (h0 : Heap) (n0 : Nat) (Z0 : n0 ≤ h0.size) :
    MetFree l (⟨"java/lang/Math", "max", "(II)I"⟩ : MethodName) (head1 (Jvm.Cond.code (⟨"java/lang/Math", "max", "(II)I"⟩ : MethodName) jdk_29_method_65_code 2 (some .int) :: ws) ({ frames := 0, cells := 0, slots := 0, locals := 0 } : Room)) (fun a U => a = #[(.int p0), (.int p1)] ∧ Z.Warmed39 U.vm ∧ U.heap = h0) (fun _ _ _ _ _ => True) (fun _ U o U' => ∃ v L, o = .returned v ∧ Q2 Z p0 p1 h0 n0 v U'.heap L ∧ FrameEnd U o U' L ({ frames := 0, cells := 0, slots := 0, locals := 0 } : Room).cells ({ frames := 0, cells := 0, slots := 0, locals := 0 } : Room).slots) := by
  refine MetFree.of_bodySF (Jvm.Free.JP.mathPlain rfl (by decide +kernel)) hisR ?_
  intro p e s m args below meth c s₁ Bd hml0 hP hK
  obtain ⟨rfl, hZ, hh⟩ := hP
  have hx := Bd.exec
  have hby := Bd.bytes
  have hml : c.maxLocals = 2 := hml0
  have hown : s.vm.findClass "java/lang/Math" = some m.cls := findClass_of_methodNamed Bd.named
  have hnm := (name_of_methodNamed Bd.named Bd.method).1
  have hlk : meth.locks = false := Bd.notSynchronized
  have X0 : Stand p l e ({ frames := 0, cells := 0, slots := 0, locals := 0 } : Room) s m #[(.int p0), (.int p1)] below meth c s₁ [] 0 0 := Stand.of_body Bd
  have e0 : s₁.heap = h0 := by rw [← hh, Bd.state]; rfl
  have N0 := Fr.nil n0
  show OwnEnds p.tables e below (OwnQ s ({ frames := 0, cells := 0, slots := 0, locals := 0 } : Room).cells ({ frames := 0, cells := 0, slots := 0, locals := 0 } : Room).slots (Q2 Z p0 p1 h0 n0)) (s₁.setTop (entryFrame m #[(.int p0), (.int p1)] 2))
  refine own_via (fun t k => castTop (ef_2 m p0 p1) k) ?_
  show OwnEnds p.tables e below _ (s₁.setTop (mkF m 0 #[.val (.int p0), .val (.int p1)] []))
  refine own_via (fun t k => XS.iloadN X0.here hx rfl (hb hby d2_0) rfl k) ?_
  show OwnEnds p.tables e below _ (s₁.setTop (mkF m 1 #[.val (.int p0), .val (.int p1)] [(.int p0)]))
  refine own_via (fun t k => XS.iloadN X0.here hx rfl (hb hby d2_1) rfl k) ?_
  show OwnEnds p.tables e below _ (s₁.setTop (mkF m 2 #[.val (.int p0), .val (.int p1)] [(.int p1), (.int p0)]))
  by_cases hc2_1 : p0 < p1
  · skip
    refine own_via (fun t k => XS.icmpYes X0.here hx rfl (pc0 := 2) (pc' := 9) rfl (hb hby d2_2) rfl (tlt hc2_1).1 (by decide) (by decide) k) ?_
    show OwnEnds p.tables e below _ (s₁.setTop (mkF m 9 #[.val (.int p0), .val (.int p1)] []))
    refine own_via (fun t k => XS.iloadN X0.here hx rfl (hb hby d2_9) rfl k) ?_
    show OwnEnds p.tables e below _ (s₁.setTop (mkF m 10 #[.val (.int p0), .val (.int p1)] [(.int p1)]))
    refine own_retI X0 hx Bd.returns hlk (hb hby d2_10) ?_ (by decide) (by decide)
    rw [e0]
    exact ⟨congrArg (fun z => some (Value.int z)) (show p1 = own_maxI p0 p1 by simp only [own_maxI, if_pos hc2_1]), N0, rfl⟩
  · skip
    refine own_via (fun t k => XS.icmpNo X0.here hx rfl (hb hby d2_2) rfl (flt hc2_1).1 k) ?_
    show OwnEnds p.tables e below _ (s₁.setTop (mkF m 5 #[.val (.int p0), .val (.int p1)] []))
    refine own_via (fun t k => XS.iloadN X0.here hx rfl (hb hby d2_5) rfl k) ?_
    show OwnEnds p.tables e below _ (s₁.setTop (mkF m 6 #[.val (.int p0), .val (.int p1)] [(.int p0)]))
    refine own_via (fun t k => XS.goto X0.here hx rfl (pc0 := 6) (pc' := 10) rfl (hb hby d2_6) (by decide) (by decide) k) ?_
    show OwnEnds p.tables e below _ (s₁.setTop (mkF m 10 #[.val (.int p0), .val (.int p1)] [(.int p0)]))
    refine own_retI X0 hx Bd.returns hlk (hb hby d2_10) ?_ (by decide) (by decide)
    rw [e0]
    exact ⟨congrArg (fun z => some (Value.int z)) (show p0 = own_maxI p0 p1 by simp only [own_maxI, if_neg hc2_1]), N0, rfl⟩
theorem d3_0 : decode method_4_code 0 = .ok (.iload_n 1, 1) := by decide +kernel
theorem d3_1 : decode method_4_code 1 = .ok (.i2b, 1) := by decide +kernel
theorem d3_2 : decode method_4_code 2 = .ok (.istore_n 2, 1) := by decide +kernel
theorem d3_3 : decode method_4_code 3 = .ok (.iload_n 1, 1) := by decide +kernel
theorem d3_4 : decode method_4_code 4 = .ok (.bipush 8, 2) := by decide +kernel
theorem d3_6 : decode method_4_code 6 = .ok (.iushr, 1) := by decide +kernel
theorem d3_7 : decode method_4_code 7 = .ok (.i2b, 1) := by decide +kernel
theorem d3_8 : decode method_4_code 8 = .ok (.istore_n 3, 1) := by decide +kernel
theorem d3_9 : decode method_4_code 9 = .ok (.iload_n 1, 1) := by decide +kernel
theorem d3_10 : decode method_4_code 10 = .ok (.bipush 16, 2) := by decide +kernel
theorem d3_12 : decode method_4_code 12 = .ok (.iushr, 1) := by decide +kernel
theorem d3_13 : decode method_4_code 13 = .ok (.i2b, 1) := by decide +kernel
theorem d3_14 : decode method_4_code 14 = .ok (.istore 4, 2) := by decide +kernel
theorem d3_16 : decode method_4_code 16 = .ok (.iload_n 1, 1) := by decide +kernel
theorem d3_17 : decode method_4_code 17 = .ok (.bipush 24, 2) := by decide +kernel
theorem d3_19 : decode method_4_code 19 = .ok (.iushr, 1) := by decide +kernel
theorem d3_20 : decode method_4_code 20 = .ok (.i2b, 1) := by decide +kernel
theorem d3_21 : decode method_4_code 21 = .ok (.istore 5, 2) := by decide +kernel
theorem d3_23 : decode method_4_code 23 = .ok (.iload_n 0, 1) := by decide +kernel
theorem d3_24 : decode method_4_code 24 = .ok (.ifCond .ne 7, 3) := by decide +kernel
theorem d3_27 : decode method_4_code 27 = .ok (.iconst 0, 1) := by decide +kernel
theorem d3_28 : decode method_4_code 28 = .ok (.newarray .byte, 2) := by decide +kernel
theorem d3_30 : decode method_4_code 30 = .ok (.areturn, 1) := by decide +kernel
theorem d3_31 : decode method_4_code 31 = .ok (.iload_n 0, 1) := by decide +kernel
theorem d3_32 : decode method_4_code 32 = .ok (.iconst 1, 1) := by decide +kernel
theorem d3_33 : decode method_4_code 33 = .ok (.if_icmp .ne 11, 3) := by decide +kernel
theorem d3_36 : decode method_4_code 36 = .ok (.iconst 1, 1) := by decide +kernel
theorem d3_37 : decode method_4_code 37 = .ok (.newarray .byte, 2) := by decide +kernel
theorem d3_39 : decode method_4_code 39 = .ok (.dup, 1) := by decide +kernel
theorem d3_40 : decode method_4_code 40 = .ok (.iconst 0, 1) := by decide +kernel
theorem d3_41 : decode method_4_code 41 = .ok (.iload_n 2, 1) := by decide +kernel
theorem d3_42 : decode method_4_code 42 = .ok (.bastore, 1) := by decide +kernel
theorem d3_43 : decode method_4_code 43 = .ok (.areturn, 1) := by decide +kernel
theorem d3_44 : decode method_4_code 44 = .ok (.iload_n 0, 1) := by decide +kernel
theorem d3_45 : decode method_4_code 45 = .ok (.iconst 2, 1) := by decide +kernel
theorem d3_46 : decode method_4_code 46 = .ok (.if_icmp .ne 15, 3) := by decide +kernel
theorem d3_49 : decode method_4_code 49 = .ok (.iconst 2, 1) := by decide +kernel
theorem d3_50 : decode method_4_code 50 = .ok (.newarray .byte, 2) := by decide +kernel
theorem d3_52 : decode method_4_code 52 = .ok (.dup, 1) := by decide +kernel
theorem d3_53 : decode method_4_code 53 = .ok (.iconst 0, 1) := by decide +kernel
theorem d3_54 : decode method_4_code 54 = .ok (.iload_n 2, 1) := by decide +kernel
theorem d3_55 : decode method_4_code 55 = .ok (.bastore, 1) := by decide +kernel
theorem d3_56 : decode method_4_code 56 = .ok (.dup, 1) := by decide +kernel
theorem d3_57 : decode method_4_code 57 = .ok (.iconst 1, 1) := by decide +kernel
theorem d3_58 : decode method_4_code 58 = .ok (.iload_n 3, 1) := by decide +kernel
theorem d3_59 : decode method_4_code 59 = .ok (.bastore, 1) := by decide +kernel
theorem d3_60 : decode method_4_code 60 = .ok (.areturn, 1) := by decide +kernel
theorem d3_61 : decode method_4_code 61 = .ok (.iload_n 0, 1) := by decide +kernel
theorem d3_62 : decode method_4_code 62 = .ok (.iconst 3, 1) := by decide +kernel
theorem d3_63 : decode method_4_code 63 = .ok (.if_icmp .ne 20, 3) := by decide +kernel
theorem d3_66 : decode method_4_code 66 = .ok (.iconst 3, 1) := by decide +kernel
theorem d3_67 : decode method_4_code 67 = .ok (.newarray .byte, 2) := by decide +kernel
theorem d3_69 : decode method_4_code 69 = .ok (.dup, 1) := by decide +kernel
theorem d3_70 : decode method_4_code 70 = .ok (.iconst 0, 1) := by decide +kernel
theorem d3_71 : decode method_4_code 71 = .ok (.iload_n 2, 1) := by decide +kernel
theorem d3_72 : decode method_4_code 72 = .ok (.bastore, 1) := by decide +kernel
theorem d3_73 : decode method_4_code 73 = .ok (.dup, 1) := by decide +kernel
theorem d3_74 : decode method_4_code 74 = .ok (.iconst 1, 1) := by decide +kernel
theorem d3_75 : decode method_4_code 75 = .ok (.iload_n 3, 1) := by decide +kernel
theorem d3_76 : decode method_4_code 76 = .ok (.bastore, 1) := by decide +kernel
theorem d3_77 : decode method_4_code 77 = .ok (.dup, 1) := by decide +kernel
theorem d3_78 : decode method_4_code 78 = .ok (.iconst 2, 1) := by decide +kernel
theorem d3_79 : decode method_4_code 79 = .ok (.iload 4, 2) := by decide +kernel
theorem d3_81 : decode method_4_code 81 = .ok (.bastore, 1) := by decide +kernel
theorem d3_82 : decode method_4_code 82 = .ok (.areturn, 1) := by decide +kernel
theorem d3_83 : decode method_4_code 83 = .ok (.iconst 4, 1) := by decide +kernel
theorem d3_84 : decode method_4_code 84 = .ok (.newarray .byte, 2) := by decide +kernel
theorem d3_86 : decode method_4_code 86 = .ok (.dup, 1) := by decide +kernel
theorem d3_87 : decode method_4_code 87 = .ok (.iconst 0, 1) := by decide +kernel
theorem d3_88 : decode method_4_code 88 = .ok (.iload_n 2, 1) := by decide +kernel
theorem d3_89 : decode method_4_code 89 = .ok (.bastore, 1) := by decide +kernel
theorem d3_90 : decode method_4_code 90 = .ok (.dup, 1) := by decide +kernel
theorem d3_91 : decode method_4_code 91 = .ok (.iconst 1, 1) := by decide +kernel
theorem d3_92 : decode method_4_code 92 = .ok (.iload_n 3, 1) := by decide +kernel
theorem d3_93 : decode method_4_code 93 = .ok (.bastore, 1) := by decide +kernel
theorem d3_94 : decode method_4_code 94 = .ok (.dup, 1) := by decide +kernel
theorem d3_95 : decode method_4_code 95 = .ok (.iconst 2, 1) := by decide +kernel
theorem d3_96 : decode method_4_code 96 = .ok (.iload 4, 2) := by decide +kernel
theorem d3_98 : decode method_4_code 98 = .ok (.bastore, 1) := by decide +kernel
theorem d3_99 : decode method_4_code 99 = .ok (.dup, 1) := by decide +kernel
theorem d3_100 : decode method_4_code 100 = .ok (.iconst 3, 1) := by decide +kernel
theorem d3_101 : decode method_4_code 101 = .ok (.iload 5, 2) := by decide +kernel
theorem d3_103 : decode method_4_code 103 = .ok (.bastore, 1) := by decide +kernel
theorem d3_104 : decode method_4_code 104 = .ok (.areturn, 1) := by decide +kernel
theorem pn_0 : plainName "com/example/crowd_cache/crowdcache/core/BucketFoundInPinLaw" = true := by first | (simp [plainName, overriddenIn]; done) | decide +kernel
theorem ef_3 (m : MethodId) (p0 : Int32) (p1 : Int32) : entryFrame m #[(.int p0), (.int p1)] 6 = mkF m 0 #[.val (.int p0), .val (.int p1), .unset, .unset, .unset, .unset] [] := by first | (simp [entryFrame, mkF, argsToLocals, Value.category]; done) | rfl
def Q3 (Z : State) (p0 : Int32) (p1 : Int32) (n : Nat) (h0 : Heap) (n0 : Nat) (v : Option Value) (h : Heap) (L : List Loc) : Prop := ∃ b : Addr, v = some (.ref b) ∧ Fr n0 L ∧ Keep h0 h [] ∧ h0.size ≤ b ∧ AL Z h b .byte (own_bl p1 n)
set_option maxRecDepth 65536 in
set_option maxHeartbeats 40000000 in
theorem rm3 (l : Launch) (Z : State) (aw : Array Value) (hw : ∀ d ∈ tables_1, d.before aw Z = true) (ws : List Jvm.Cond) (p0 : Int32) (p1 : Int32) (n : Nat) (h0 : Heap) (n0 : Nat) (Z0 : n0 ≤ h0.size) (hn : p0.toInt = n) (hn4 : n ≤ 4) :
    MetFree l (⟨"com/example/crowd_cache/crowdcache/core/BucketFoundInPinLaw", "make", "(II)[B"⟩ : MethodName) (head1 (Jvm.Cond.code (⟨"com/example/crowd_cache/crowdcache/core/BucketFoundInPinLaw", "make", "(II)[B"⟩ : MethodName) method_4_code 6 (some (.array .byte)) :: ws) ({ frames := 0, cells := 1, slots := 4, locals := 0 } : Room)) (fun a U => a = #[(.int p0), (.int p1)] ∧ Z.Warmed39 U.vm ∧ U.heap = h0) (fun _ _ _ _ _ => True) (fun _ U o U' => ∃ v L, o = .returned v ∧ Q3 Z p0 p1 n h0 n0 v U'.heap L ∧ FrameEnd U o U' L ({ frames := 0, cells := 1, slots := 4, locals := 0 } : Room).cells ({ frames := 0, cells := 1, slots := 4, locals := 0 } : Room).slots) := by
  refine MetFree.of_bodySF (plainFor_of_name pn_0) hisR ?_
  intro p e s m args below meth c s₁ Bd hml0 hP hK
  obtain ⟨rfl, hZ, hh⟩ := hP
  have hx := Bd.exec
  have hby := Bd.bytes
  have hml : c.maxLocals = 6 := hml0
  have hown : s.vm.findClass "com/example/crowd_cache/crowdcache/core/BucketFoundInPinLaw" = some m.cls := findClass_of_methodNamed Bd.named
  have hnm := (name_of_methodNamed Bd.named Bd.method).1
  have hlk : meth.locks = false := Bd.notSynchronized
  have X0 : Stand p l e ({ frames := 0, cells := 1, slots := 4, locals := 0 } : Room) s m #[(.int p0), (.int p1)] below meth c s₁ [] 0 0 := Stand.of_body Bd
  have e0 : s₁.heap = h0 := by rw [← hh, Bd.state]; rfl
  have N0 := Fr.nil n0
  show OwnEnds p.tables e below (OwnQ s ({ frames := 0, cells := 1, slots := 4, locals := 0 } : Room).cells ({ frames := 0, cells := 1, slots := 4, locals := 0 } : Room).slots (Q3 Z p0 p1 n h0 n0)) (s₁.setTop (entryFrame m #[(.int p0), (.int p1)] 6))
  refine own_via (fun t k => castTop (ef_3 m p0 p1) k) ?_
  show OwnEnds p.tables e below _ (s₁.setTop (mkF m 0 #[.val (.int p0), .val (.int p1), .unset, .unset, .unset, .unset] []))
  have K0 : Keep h0 h0 [] := Keep.refl _ _
  refine own_via (fun t k => XS.iloadN X0.here hx rfl (hb hby d3_0) rfl k) ?_
  show OwnEnds p.tables e below _ (s₁.setTop (mkF m 1 #[.val (.int p0), .val (.int p1), .unset, .unset, .unset, .unset] [(.int p1)]))
  refine own_via (fun t k => XS.i2b X0.here hx rfl (hb hby d3_1) rfl k) ?_
  show OwnEnds p.tables e below _ (s₁.setTop (mkF m 2 #[.val (.int p0), .val (.int p1), .unset, .unset, .unset, .unset] [(.int (p1.toInt8.toInt32))]))
  refine own_via (fun t k => XS.istoreN X0.here hx rfl (hb hby d3_2) rfl (l' := #[.val (.int p0), .val (.int p1), .val (.int (p1.toInt8.toInt32)), .unset, .unset, .unset]) rfl k) ?_
  show OwnEnds p.tables e below _ (s₁.setTop (mkF m 3 #[.val (.int p0), .val (.int p1), .val (.int (p1.toInt8.toInt32)), .unset, .unset, .unset] []))
  refine own_via (fun t k => XS.iloadN X0.here hx rfl (hb hby d3_3) rfl k) ?_
  show OwnEnds p.tables e below _ (s₁.setTop (mkF m 4 #[.val (.int p0), .val (.int p1), .val (.int (p1.toInt8.toInt32)), .unset, .unset, .unset] [(.int p1)]))
  refine own_via (fun t k => XS.bipush X0.here hx rfl (hb hby d3_4) k) ?_
  show OwnEnds p.tables e below _ (s₁.setTop (mkF m 6 #[.val (.int p0), .val (.int p1), .val (.int (p1.toInt8.toInt32)), .unset, .unset, .unset] [(.int (8 : Int32)), (.int p1)]))
  refine own_via (fun t k => XS.iushr X0.here hx rfl (hb hby d3_6) rfl k) ?_
  show OwnEnds p.tables e below _ (s₁.setTop (mkF m 7 #[.val (.int p0), .val (.int p1), .val (.int (p1.toInt8.toInt32)), .unset, .unset, .unset] [(.int ((p1.toUInt32 >>> ((8 : Int32) &&& 31).toUInt32).toInt32))]))
  refine own_via (fun t k => XS.i2b X0.here hx rfl (hb hby d3_7) rfl k) ?_
  show OwnEnds p.tables e below _ (s₁.setTop (mkF m 8 #[.val (.int p0), .val (.int p1), .val (.int (p1.toInt8.toInt32)), .unset, .unset, .unset] [(.int (((p1.toUInt32 >>> ((8 : Int32) &&& 31).toUInt32).toInt32).toInt8.toInt32))]))
  refine own_via (fun t k => XS.istoreN X0.here hx rfl (hb hby d3_8) rfl (l' := #[.val (.int p0), .val (.int p1), .val (.int (p1.toInt8.toInt32)), .val (.int (((p1.toUInt32 >>> ((8 : Int32) &&& 31).toUInt32).toInt32).toInt8.toInt32)), .unset, .unset]) rfl k) ?_
  show OwnEnds p.tables e below _ (s₁.setTop (mkF m 9 #[.val (.int p0), .val (.int p1), .val (.int (p1.toInt8.toInt32)), .val (.int (((p1.toUInt32 >>> ((8 : Int32) &&& 31).toUInt32).toInt32).toInt8.toInt32)), .unset, .unset] []))
  refine own_via (fun t k => XS.iloadN X0.here hx rfl (hb hby d3_9) rfl k) ?_
  show OwnEnds p.tables e below _ (s₁.setTop (mkF m 10 #[.val (.int p0), .val (.int p1), .val (.int (p1.toInt8.toInt32)), .val (.int (((p1.toUInt32 >>> ((8 : Int32) &&& 31).toUInt32).toInt32).toInt8.toInt32)), .unset, .unset] [(.int p1)]))
  refine own_via (fun t k => XS.bipush X0.here hx rfl (hb hby d3_10) k) ?_
  show OwnEnds p.tables e below _ (s₁.setTop (mkF m 12 #[.val (.int p0), .val (.int p1), .val (.int (p1.toInt8.toInt32)), .val (.int (((p1.toUInt32 >>> ((8 : Int32) &&& 31).toUInt32).toInt32).toInt8.toInt32)), .unset, .unset] [(.int (16 : Int32)), (.int p1)]))
  refine own_via (fun t k => XS.iushr X0.here hx rfl (hb hby d3_12) rfl k) ?_
  show OwnEnds p.tables e below _ (s₁.setTop (mkF m 13 #[.val (.int p0), .val (.int p1), .val (.int (p1.toInt8.toInt32)), .val (.int (((p1.toUInt32 >>> ((8 : Int32) &&& 31).toUInt32).toInt32).toInt8.toInt32)), .unset, .unset] [(.int ((p1.toUInt32 >>> ((16 : Int32) &&& 31).toUInt32).toInt32))]))
  refine own_via (fun t k => XS.i2b X0.here hx rfl (hb hby d3_13) rfl k) ?_
  show OwnEnds p.tables e below _ (s₁.setTop (mkF m 14 #[.val (.int p0), .val (.int p1), .val (.int (p1.toInt8.toInt32)), .val (.int (((p1.toUInt32 >>> ((8 : Int32) &&& 31).toUInt32).toInt32).toInt8.toInt32)), .unset, .unset] [(.int (((p1.toUInt32 >>> ((16 : Int32) &&& 31).toUInt32).toInt32).toInt8.toInt32))]))
  refine own_via (fun t k => XS.istore X0.here hx rfl (hb hby d3_14) rfl (l' := #[.val (.int p0), .val (.int p1), .val (.int (p1.toInt8.toInt32)), .val (.int (((p1.toUInt32 >>> ((8 : Int32) &&& 31).toUInt32).toInt32).toInt8.toInt32)), .val (.int (((p1.toUInt32 >>> ((16 : Int32) &&& 31).toUInt32).toInt32).toInt8.toInt32)), .unset]) rfl k) ?_
  show OwnEnds p.tables e below _ (s₁.setTop (mkF m 16 #[.val (.int p0), .val (.int p1), .val (.int (p1.toInt8.toInt32)), .val (.int (((p1.toUInt32 >>> ((8 : Int32) &&& 31).toUInt32).toInt32).toInt8.toInt32)), .val (.int (((p1.toUInt32 >>> ((16 : Int32) &&& 31).toUInt32).toInt32).toInt8.toInt32)), .unset] []))
  refine own_via (fun t k => XS.iloadN X0.here hx rfl (hb hby d3_16) rfl k) ?_
  show OwnEnds p.tables e below _ (s₁.setTop (mkF m 17 #[.val (.int p0), .val (.int p1), .val (.int (p1.toInt8.toInt32)), .val (.int (((p1.toUInt32 >>> ((8 : Int32) &&& 31).toUInt32).toInt32).toInt8.toInt32)), .val (.int (((p1.toUInt32 >>> ((16 : Int32) &&& 31).toUInt32).toInt32).toInt8.toInt32)), .unset] [(.int p1)]))
  refine own_via (fun t k => XS.bipush X0.here hx rfl (hb hby d3_17) k) ?_
  show OwnEnds p.tables e below _ (s₁.setTop (mkF m 19 #[.val (.int p0), .val (.int p1), .val (.int (p1.toInt8.toInt32)), .val (.int (((p1.toUInt32 >>> ((8 : Int32) &&& 31).toUInt32).toInt32).toInt8.toInt32)), .val (.int (((p1.toUInt32 >>> ((16 : Int32) &&& 31).toUInt32).toInt32).toInt8.toInt32)), .unset] [(.int (24 : Int32)), (.int p1)]))
  refine own_via (fun t k => XS.iushr X0.here hx rfl (hb hby d3_19) rfl k) ?_
  show OwnEnds p.tables e below _ (s₁.setTop (mkF m 20 #[.val (.int p0), .val (.int p1), .val (.int (p1.toInt8.toInt32)), .val (.int (((p1.toUInt32 >>> ((8 : Int32) &&& 31).toUInt32).toInt32).toInt8.toInt32)), .val (.int (((p1.toUInt32 >>> ((16 : Int32) &&& 31).toUInt32).toInt32).toInt8.toInt32)), .unset] [(.int ((p1.toUInt32 >>> ((24 : Int32) &&& 31).toUInt32).toInt32))]))
  refine own_via (fun t k => XS.i2b X0.here hx rfl (hb hby d3_20) rfl k) ?_
  show OwnEnds p.tables e below _ (s₁.setTop (mkF m 21 #[.val (.int p0), .val (.int p1), .val (.int (p1.toInt8.toInt32)), .val (.int (((p1.toUInt32 >>> ((8 : Int32) &&& 31).toUInt32).toInt32).toInt8.toInt32)), .val (.int (((p1.toUInt32 >>> ((16 : Int32) &&& 31).toUInt32).toInt32).toInt8.toInt32)), .unset] [(.int (((p1.toUInt32 >>> ((24 : Int32) &&& 31).toUInt32).toInt32).toInt8.toInt32))]))
  refine own_via (fun t k => XS.istore X0.here hx rfl (hb hby d3_21) rfl (l' := #[.val (.int p0), .val (.int p1), .val (.int (p1.toInt8.toInt32)), .val (.int (((p1.toUInt32 >>> ((8 : Int32) &&& 31).toUInt32).toInt32).toInt8.toInt32)), .val (.int (((p1.toUInt32 >>> ((16 : Int32) &&& 31).toUInt32).toInt32).toInt8.toInt32)), .val (.int (((p1.toUInt32 >>> ((24 : Int32) &&& 31).toUInt32).toInt32).toInt8.toInt32))]) rfl k) ?_
  show OwnEnds p.tables e below _ (s₁.setTop (mkF m 23 #[.val (.int p0), .val (.int p1), .val (.int (p1.toInt8.toInt32)), .val (.int (((p1.toUInt32 >>> ((8 : Int32) &&& 31).toUInt32).toInt32).toInt8.toInt32)), .val (.int (((p1.toUInt32 >>> ((16 : Int32) &&& 31).toUInt32).toInt32).toInt8.toInt32)), .val (.int (((p1.toUInt32 >>> ((24 : Int32) &&& 31).toUInt32).toInt32).toInt8.toInt32))] []))
  rcases own_n5 hn hn4 with ⟨rfl, rfl⟩ | ⟨rfl, rfl⟩ | ⟨rfl, rfl⟩ | ⟨rfl, rfl⟩ | ⟨rfl, rfl⟩
  · skip
    show OwnEnds p.tables e below _ (s₁.setTop (mkF m 23 #[.val (.int (0 : Int32)), .val (.int p1), .val (.int (p1.toInt8.toInt32)), .val (.int (((p1.toUInt32 >>> ((8 : Int32) &&& 31).toUInt32).toInt32).toInt8.toInt32)), .val (.int (((p1.toUInt32 >>> ((16 : Int32) &&& 31).toUInt32).toInt32).toInt8.toInt32)), .val (.int (((p1.toUInt32 >>> ((24 : Int32) &&& 31).toUInt32).toInt32).toInt8.toInt32))] []))
    refine own_via (fun t k => XS.iloadN X0.here hx rfl (hb hby d3_23) rfl k) ?_
    show OwnEnds p.tables e below _ (s₁.setTop (mkF m 24 #[.val (.int (0 : Int32)), .val (.int p1), .val (.int (p1.toInt8.toInt32)), .val (.int (((p1.toUInt32 >>> ((8 : Int32) &&& 31).toUInt32).toInt32).toInt8.toInt32)), .val (.int (((p1.toUInt32 >>> ((16 : Int32) &&& 31).toUInt32).toInt32).toInt8.toInt32)), .val (.int (((p1.toUInt32 >>> ((24 : Int32) &&& 31).toUInt32).toInt32).toInt8.toInt32))] [(.int (0 : Int32))]))
    have hc24_1 : (0 : Int32) = (0 : Int32) := by decide
    refine own_via (fun t k => XS.ifNo X0.here hx rfl (hb hby d3_24) rfl ((if0 _ _).trans (teq hc24_1).2) k) ?_
    show OwnEnds p.tables e below _ (s₁.setTop (mkF m 27 #[.val (.int (0 : Int32)), .val (.int p1), .val (.int (p1.toInt8.toInt32)), .val (.int (((p1.toUInt32 >>> ((8 : Int32) &&& 31).toUInt32).toInt32).toInt8.toInt32)), .val (.int (((p1.toUInt32 >>> ((16 : Int32) &&& 31).toUInt32).toInt32).toInt8.toInt32)), .val (.int (((p1.toUInt32 >>> ((24 : Int32) &&& 31).toUInt32).toInt32).toInt8.toInt32))] []))
    refine own_via (fun t k => XS.iconst X0.here hx rfl (hb hby d3_27) k) ?_
    show OwnEnds p.tables e below _ (s₁.setTop (mkF m 28 #[.val (.int (0 : Int32)), .val (.int p1), .val (.int (p1.toInt8.toInt32)), .val (.int (((p1.toUInt32 >>> ((8 : Int32) &&& 31).toUInt32).toInt32).toInt8.toInt32)), .val (.int (((p1.toUInt32 >>> ((16 : Int32) &&& 31).toUInt32).toInt32).toInt8.toInt32)), .val (.int (((p1.toUInt32 >>> ((24 : Int32) &&& 31).toUInt32).toInt32).toInt8.toInt32))] [(.int (0 : Int32))]))
    obtain ⟨T2, h2, k2, X2, e2, E2, A2, st2⟩ := newP X0 hx hZ (hw _ (List.mem_of_getElem? (i := 14) rfl)) e0 (g := (mkF m 28 #[.val (.int (0 : Int32)), .val (.int p1), .val (.int (p1.toInt8.toInt32)), .val (.int (((p1.toUInt32 >>> ((8 : Int32) &&& 31).toUInt32).toInt32).toInt8.toInt32)), .val (.int (((p1.toUInt32 >>> ((16 : Int32) &&& 31).toUInt32).toInt32).toInt8.toInt32)), .val (.int (((p1.toUInt32 >>> ((24 : Int32) &&& 31).toUInt32).toInt32).toInt8.toInt32))] [(.int (0 : Int32))])) rfl (hb hby d3_28) rfl (by decide) (cap := 0) (by decide) (by decide) (by decide) (by decide)
    obtain ⟨b2, g2⟩ : ∃ z, z = h0.size := ⟨_, rfl⟩
    rw [← g2] at A2 st2
    have g_b2 : n0 ≤ b2 := Nat.le_trans Z0 (Nat.le_of_eq g2.symm)
    have sz_b2 : h0.size ≤ b2 := Nat.le_trans K0.1 (Nat.le_of_eq g2.symm)
    have Zs_2 : n0 ≤ _ := Nat.le_trans Z0 E2.1
    replace K0 := K0.ext E2
    have A_b2 : AL Z h2 b2 .byte [] := AL.new A2 (by decide) (i := 0) rfl
    refine own_via st2 ?_
    show OwnEnds p.tables e below _ (T2.setTop (mkF m 30 #[.val (.int (0 : Int32)), .val (.int p1), .val (.int (p1.toInt8.toInt32)), .val (.int (((p1.toUInt32 >>> ((8 : Int32) &&& 31).toUInt32).toInt32).toInt8.toInt32)), .val (.int (((p1.toUInt32 >>> ((16 : Int32) &&& 31).toUInt32).toInt32).toInt8.toInt32)), .val (.int (((p1.toUInt32 >>> ((24 : Int32) &&& 31).toUInt32).toInt32).toInt8.toInt32))] [(.ref b2)]))
    refine own_retA X2 hx Bd.returns rfl rfl hlk (hb hby d3_30) ?_ (by decide) (by decide)
    rw [e2]
    exact ⟨b2, rfl, N0, K0, sz_b2, A_b2⟩
  · skip
    show OwnEnds p.tables e below _ (s₁.setTop (mkF m 23 #[.val (.int (1 : Int32)), .val (.int p1), .val (.int (p1.toInt8.toInt32)), .val (.int (((p1.toUInt32 >>> ((8 : Int32) &&& 31).toUInt32).toInt32).toInt8.toInt32)), .val (.int (((p1.toUInt32 >>> ((16 : Int32) &&& 31).toUInt32).toInt32).toInt8.toInt32)), .val (.int (((p1.toUInt32 >>> ((24 : Int32) &&& 31).toUInt32).toInt32).toInt8.toInt32))] []))
    refine own_via (fun t k => XS.iloadN X0.here hx rfl (hb hby d3_23) rfl k) ?_
    show OwnEnds p.tables e below _ (s₁.setTop (mkF m 24 #[.val (.int (1 : Int32)), .val (.int p1), .val (.int (p1.toInt8.toInt32)), .val (.int (((p1.toUInt32 >>> ((8 : Int32) &&& 31).toUInt32).toInt32).toInt8.toInt32)), .val (.int (((p1.toUInt32 >>> ((16 : Int32) &&& 31).toUInt32).toInt32).toInt8.toInt32)), .val (.int (((p1.toUInt32 >>> ((24 : Int32) &&& 31).toUInt32).toInt32).toInt8.toInt32))] [(.int (1 : Int32))]))
    have hc24_3 : ¬ ((1 : Int32) = (0 : Int32)) := by decide
    refine own_via (fun t k => XS.ifYes X0.here hx rfl (pc0 := 24) (pc' := 31) rfl (hb hby d3_24) rfl ((if0 _ _).trans (feq hc24_3).2) (by decide) (by decide) k) ?_
    show OwnEnds p.tables e below _ (s₁.setTop (mkF m 31 #[.val (.int (1 : Int32)), .val (.int p1), .val (.int (p1.toInt8.toInt32)), .val (.int (((p1.toUInt32 >>> ((8 : Int32) &&& 31).toUInt32).toInt32).toInt8.toInt32)), .val (.int (((p1.toUInt32 >>> ((16 : Int32) &&& 31).toUInt32).toInt32).toInt8.toInt32)), .val (.int (((p1.toUInt32 >>> ((24 : Int32) &&& 31).toUInt32).toInt32).toInt8.toInt32))] []))
    refine own_via (fun t k => XS.iloadN X0.here hx rfl (hb hby d3_31) rfl k) ?_
    show OwnEnds p.tables e below _ (s₁.setTop (mkF m 32 #[.val (.int (1 : Int32)), .val (.int p1), .val (.int (p1.toInt8.toInt32)), .val (.int (((p1.toUInt32 >>> ((8 : Int32) &&& 31).toUInt32).toInt32).toInt8.toInt32)), .val (.int (((p1.toUInt32 >>> ((16 : Int32) &&& 31).toUInt32).toInt32).toInt8.toInt32)), .val (.int (((p1.toUInt32 >>> ((24 : Int32) &&& 31).toUInt32).toInt32).toInt8.toInt32))] [(.int (1 : Int32))]))
    refine own_via (fun t k => XS.iconst X0.here hx rfl (hb hby d3_32) k) ?_
    show OwnEnds p.tables e below _ (s₁.setTop (mkF m 33 #[.val (.int (1 : Int32)), .val (.int p1), .val (.int (p1.toInt8.toInt32)), .val (.int (((p1.toUInt32 >>> ((8 : Int32) &&& 31).toUInt32).toInt32).toInt8.toInt32)), .val (.int (((p1.toUInt32 >>> ((16 : Int32) &&& 31).toUInt32).toInt32).toInt8.toInt32)), .val (.int (((p1.toUInt32 >>> ((24 : Int32) &&& 31).toUInt32).toInt32).toInt8.toInt32))] [(.int (1 : Int32)), (.int (1 : Int32))]))
    have hc33_4 : (1 : Int32) = (1 : Int32) := by decide
    refine own_via (fun t k => XS.icmpNo X0.here hx rfl (hb hby d3_33) rfl (teq hc33_4).2 k) ?_
    show OwnEnds p.tables e below _ (s₁.setTop (mkF m 36 #[.val (.int (1 : Int32)), .val (.int p1), .val (.int (p1.toInt8.toInt32)), .val (.int (((p1.toUInt32 >>> ((8 : Int32) &&& 31).toUInt32).toInt32).toInt8.toInt32)), .val (.int (((p1.toUInt32 >>> ((16 : Int32) &&& 31).toUInt32).toInt32).toInt8.toInt32)), .val (.int (((p1.toUInt32 >>> ((24 : Int32) &&& 31).toUInt32).toInt32).toInt8.toInt32))] []))
    refine own_via (fun t k => XS.iconst X0.here hx rfl (hb hby d3_36) k) ?_
    show OwnEnds p.tables e below _ (s₁.setTop (mkF m 37 #[.val (.int (1 : Int32)), .val (.int p1), .val (.int (p1.toInt8.toInt32)), .val (.int (((p1.toUInt32 >>> ((8 : Int32) &&& 31).toUInt32).toInt32).toInt8.toInt32)), .val (.int (((p1.toUInt32 >>> ((16 : Int32) &&& 31).toUInt32).toInt32).toInt8.toInt32)), .val (.int (((p1.toUInt32 >>> ((24 : Int32) &&& 31).toUInt32).toInt32).toInt8.toInt32))] [(.int (1 : Int32))]))
    obtain ⟨T5, h5, k5, X5, e5, E5, A5, st5⟩ := newP X0 hx hZ (hw _ (List.mem_of_getElem? (i := 14) rfl)) e0 (g := (mkF m 37 #[.val (.int (1 : Int32)), .val (.int p1), .val (.int (p1.toInt8.toInt32)), .val (.int (((p1.toUInt32 >>> ((8 : Int32) &&& 31).toUInt32).toInt32).toInt8.toInt32)), .val (.int (((p1.toUInt32 >>> ((16 : Int32) &&& 31).toUInt32).toInt32).toInt8.toInt32)), .val (.int (((p1.toUInt32 >>> ((24 : Int32) &&& 31).toUInt32).toInt32).toInt8.toInt32))] [(.int (1 : Int32))])) rfl (hb hby d3_37) rfl (by decide) (cap := 1) (by decide) (by decide) (by decide) (by decide)
    obtain ⟨b5, g5⟩ : ∃ z, z = h0.size := ⟨_, rfl⟩
    rw [← g5] at A5 st5
    have g_b5 : n0 ≤ b5 := Nat.le_trans Z0 (Nat.le_of_eq g5.symm)
    have sz_b5 : h0.size ≤ b5 := Nat.le_trans K0.1 (Nat.le_of_eq g5.symm)
    have Zs_5 : n0 ≤ _ := Nat.le_trans Z0 E5.1
    replace K0 := K0.ext E5
    have A_b5 : AL Z h5 b5 .byte [(.int (0 : Int32))] := AL.new A5 (by decide) (i := 1) rfl
    refine own_via st5 ?_
    show OwnEnds p.tables e below _ (T5.setTop (mkF m 39 #[.val (.int (1 : Int32)), .val (.int p1), .val (.int (p1.toInt8.toInt32)), .val (.int (((p1.toUInt32 >>> ((8 : Int32) &&& 31).toUInt32).toInt32).toInt8.toInt32)), .val (.int (((p1.toUInt32 >>> ((16 : Int32) &&& 31).toUInt32).toInt32).toInt8.toInt32)), .val (.int (((p1.toUInt32 >>> ((24 : Int32) &&& 31).toUInt32).toInt32).toInt8.toInt32))] [(.ref b5)]))
    refine own_via (fun t k => XS.dup X5.here hx rfl (hb hby d3_39) rfl rfl k) ?_
    show OwnEnds p.tables e below _ (T5.setTop (mkF m 40 #[.val (.int (1 : Int32)), .val (.int p1), .val (.int (p1.toInt8.toInt32)), .val (.int (((p1.toUInt32 >>> ((8 : Int32) &&& 31).toUInt32).toInt32).toInt8.toInt32)), .val (.int (((p1.toUInt32 >>> ((16 : Int32) &&& 31).toUInt32).toInt32).toInt8.toInt32)), .val (.int (((p1.toUInt32 >>> ((24 : Int32) &&& 31).toUInt32).toInt32).toInt8.toInt32))] [(.ref b5), (.ref b5)]))
    refine own_via (fun t k => XS.iconst X5.here hx rfl (hb hby d3_40) k) ?_
    show OwnEnds p.tables e below _ (T5.setTop (mkF m 41 #[.val (.int (1 : Int32)), .val (.int p1), .val (.int (p1.toInt8.toInt32)), .val (.int (((p1.toUInt32 >>> ((8 : Int32) &&& 31).toUInt32).toInt32).toInt8.toInt32)), .val (.int (((p1.toUInt32 >>> ((16 : Int32) &&& 31).toUInt32).toInt32).toInt8.toInt32)), .val (.int (((p1.toUInt32 >>> ((24 : Int32) &&& 31).toUInt32).toInt32).toInt8.toInt32))] [(.int (0 : Int32)), (.ref b5), (.ref b5)]))
    refine own_via (fun t k => XS.iloadN X5.here hx rfl (hb hby d3_41) rfl k) ?_
    show OwnEnds p.tables e below _ (T5.setTop (mkF m 42 #[.val (.int (1 : Int32)), .val (.int p1), .val (.int (p1.toInt8.toInt32)), .val (.int (((p1.toUInt32 >>> ((8 : Int32) &&& 31).toUInt32).toInt32).toInt8.toInt32)), .val (.int (((p1.toUInt32 >>> ((16 : Int32) &&& 31).toUInt32).toInt32).toInt8.toInt32)), .val (.int (((p1.toUInt32 >>> ((24 : Int32) &&& 31).toUInt32).toInt32).toInt8.toInt32))] [(.int (p1.toInt8.toInt32)), (.int (0 : Int32)), (.ref b5), (.ref b5)]))
    obtain ⟨T6, h6, X6, e6, W6, AA6, st6⟩ := own_stB X5 hx hZ e5 A_b5 0 rfl (Nat.le_of_ble_eq_true rfl) (g := (mkF m 42 #[.val (.int (1 : Int32)), .val (.int p1), .val (.int (p1.toInt8.toInt32)), .val (.int (((p1.toUInt32 >>> ((8 : Int32) &&& 31).toUInt32).toInt32).toInt8.toInt32)), .val (.int (((p1.toUInt32 >>> ((16 : Int32) &&& 31).toUInt32).toInt32).toInt8.toInt32)), .val (.int (((p1.toUInt32 >>> ((24 : Int32) &&& 31).toUInt32).toInt32).toInt8.toInt32))] [(.int (p1.toInt8.toInt32)), (.int (0 : Int32)), (.ref b5), (.ref b5)])) rfl rfl (hb hby d3_42)
    replace K0 := K0.wr W6 (Or.inr sz_b5)
    have Zs_W6 : n0 ≤ _ := Nat.le_trans Zs_5 (Keep.of_wr W6).1
    replace A_b5 : AL Z h6 b5 .byte [(.int (nar .byte (p1.toInt8.toInt32)))] := AA6
    have N6 := Fr.snoc X6 N0 g_b5
    refine own_via st6 ?_
    show OwnEnds p.tables e below _ (T6.setTop (mkF m 43 #[.val (.int (1 : Int32)), .val (.int p1), .val (.int (p1.toInt8.toInt32)), .val (.int (((p1.toUInt32 >>> ((8 : Int32) &&& 31).toUInt32).toInt32).toInt8.toInt32)), .val (.int (((p1.toUInt32 >>> ((16 : Int32) &&& 31).toUInt32).toInt32).toInt8.toInt32)), .val (.int (((p1.toUInt32 >>> ((24 : Int32) &&& 31).toUInt32).toInt32).toInt8.toInt32))] [(.ref b5)]))
    refine own_retA X6 hx Bd.returns rfl rfl hlk (hb hby d3_43) ?_ (by decide) (by decide)
    rw [e6]
    exact ⟨b5, rfl, N6, K0, sz_b5, A_b5⟩
  · skip
    show OwnEnds p.tables e below _ (s₁.setTop (mkF m 23 #[.val (.int (2 : Int32)), .val (.int p1), .val (.int (p1.toInt8.toInt32)), .val (.int (((p1.toUInt32 >>> ((8 : Int32) &&& 31).toUInt32).toInt32).toInt8.toInt32)), .val (.int (((p1.toUInt32 >>> ((16 : Int32) &&& 31).toUInt32).toInt32).toInt8.toInt32)), .val (.int (((p1.toUInt32 >>> ((24 : Int32) &&& 31).toUInt32).toInt32).toInt8.toInt32))] []))
    refine own_via (fun t k => XS.iloadN X0.here hx rfl (hb hby d3_23) rfl k) ?_
    show OwnEnds p.tables e below _ (s₁.setTop (mkF m 24 #[.val (.int (2 : Int32)), .val (.int p1), .val (.int (p1.toInt8.toInt32)), .val (.int (((p1.toUInt32 >>> ((8 : Int32) &&& 31).toUInt32).toInt32).toInt8.toInt32)), .val (.int (((p1.toUInt32 >>> ((16 : Int32) &&& 31).toUInt32).toInt32).toInt8.toInt32)), .val (.int (((p1.toUInt32 >>> ((24 : Int32) &&& 31).toUInt32).toInt32).toInt8.toInt32))] [(.int (2 : Int32))]))
    have hc24_7 : ¬ ((2 : Int32) = (0 : Int32)) := by decide
    refine own_via (fun t k => XS.ifYes X0.here hx rfl (pc0 := 24) (pc' := 31) rfl (hb hby d3_24) rfl ((if0 _ _).trans (feq hc24_7).2) (by decide) (by decide) k) ?_
    show OwnEnds p.tables e below _ (s₁.setTop (mkF m 31 #[.val (.int (2 : Int32)), .val (.int p1), .val (.int (p1.toInt8.toInt32)), .val (.int (((p1.toUInt32 >>> ((8 : Int32) &&& 31).toUInt32).toInt32).toInt8.toInt32)), .val (.int (((p1.toUInt32 >>> ((16 : Int32) &&& 31).toUInt32).toInt32).toInt8.toInt32)), .val (.int (((p1.toUInt32 >>> ((24 : Int32) &&& 31).toUInt32).toInt32).toInt8.toInt32))] []))
    refine own_via (fun t k => XS.iloadN X0.here hx rfl (hb hby d3_31) rfl k) ?_
    show OwnEnds p.tables e below _ (s₁.setTop (mkF m 32 #[.val (.int (2 : Int32)), .val (.int p1), .val (.int (p1.toInt8.toInt32)), .val (.int (((p1.toUInt32 >>> ((8 : Int32) &&& 31).toUInt32).toInt32).toInt8.toInt32)), .val (.int (((p1.toUInt32 >>> ((16 : Int32) &&& 31).toUInt32).toInt32).toInt8.toInt32)), .val (.int (((p1.toUInt32 >>> ((24 : Int32) &&& 31).toUInt32).toInt32).toInt8.toInt32))] [(.int (2 : Int32))]))
    refine own_via (fun t k => XS.iconst X0.here hx rfl (hb hby d3_32) k) ?_
    show OwnEnds p.tables e below _ (s₁.setTop (mkF m 33 #[.val (.int (2 : Int32)), .val (.int p1), .val (.int (p1.toInt8.toInt32)), .val (.int (((p1.toUInt32 >>> ((8 : Int32) &&& 31).toUInt32).toInt32).toInt8.toInt32)), .val (.int (((p1.toUInt32 >>> ((16 : Int32) &&& 31).toUInt32).toInt32).toInt8.toInt32)), .val (.int (((p1.toUInt32 >>> ((24 : Int32) &&& 31).toUInt32).toInt32).toInt8.toInt32))] [(.int (1 : Int32)), (.int (2 : Int32))]))
    have hc33_8 : ¬ ((2 : Int32) = (1 : Int32)) := by decide
    refine own_via (fun t k => XS.icmpYes X0.here hx rfl (pc0 := 33) (pc' := 44) rfl (hb hby d3_33) rfl (feq hc33_8).2 (by decide) (by decide) k) ?_
    show OwnEnds p.tables e below _ (s₁.setTop (mkF m 44 #[.val (.int (2 : Int32)), .val (.int p1), .val (.int (p1.toInt8.toInt32)), .val (.int (((p1.toUInt32 >>> ((8 : Int32) &&& 31).toUInt32).toInt32).toInt8.toInt32)), .val (.int (((p1.toUInt32 >>> ((16 : Int32) &&& 31).toUInt32).toInt32).toInt8.toInt32)), .val (.int (((p1.toUInt32 >>> ((24 : Int32) &&& 31).toUInt32).toInt32).toInt8.toInt32))] []))
    refine own_via (fun t k => XS.iloadN X0.here hx rfl (hb hby d3_44) rfl k) ?_
    show OwnEnds p.tables e below _ (s₁.setTop (mkF m 45 #[.val (.int (2 : Int32)), .val (.int p1), .val (.int (p1.toInt8.toInt32)), .val (.int (((p1.toUInt32 >>> ((8 : Int32) &&& 31).toUInt32).toInt32).toInt8.toInt32)), .val (.int (((p1.toUInt32 >>> ((16 : Int32) &&& 31).toUInt32).toInt32).toInt8.toInt32)), .val (.int (((p1.toUInt32 >>> ((24 : Int32) &&& 31).toUInt32).toInt32).toInt8.toInt32))] [(.int (2 : Int32))]))
    refine own_via (fun t k => XS.iconst X0.here hx rfl (hb hby d3_45) k) ?_
    show OwnEnds p.tables e below _ (s₁.setTop (mkF m 46 #[.val (.int (2 : Int32)), .val (.int p1), .val (.int (p1.toInt8.toInt32)), .val (.int (((p1.toUInt32 >>> ((8 : Int32) &&& 31).toUInt32).toInt32).toInt8.toInt32)), .val (.int (((p1.toUInt32 >>> ((16 : Int32) &&& 31).toUInt32).toInt32).toInt8.toInt32)), .val (.int (((p1.toUInt32 >>> ((24 : Int32) &&& 31).toUInt32).toInt32).toInt8.toInt32))] [(.int (2 : Int32)), (.int (2 : Int32))]))
    have hc46_9 : (2 : Int32) = (2 : Int32) := by decide
    refine own_via (fun t k => XS.icmpNo X0.here hx rfl (hb hby d3_46) rfl (teq hc46_9).2 k) ?_
    show OwnEnds p.tables e below _ (s₁.setTop (mkF m 49 #[.val (.int (2 : Int32)), .val (.int p1), .val (.int (p1.toInt8.toInt32)), .val (.int (((p1.toUInt32 >>> ((8 : Int32) &&& 31).toUInt32).toInt32).toInt8.toInt32)), .val (.int (((p1.toUInt32 >>> ((16 : Int32) &&& 31).toUInt32).toInt32).toInt8.toInt32)), .val (.int (((p1.toUInt32 >>> ((24 : Int32) &&& 31).toUInt32).toInt32).toInt8.toInt32))] []))
    refine own_via (fun t k => XS.iconst X0.here hx rfl (hb hby d3_49) k) ?_
    show OwnEnds p.tables e below _ (s₁.setTop (mkF m 50 #[.val (.int (2 : Int32)), .val (.int p1), .val (.int (p1.toInt8.toInt32)), .val (.int (((p1.toUInt32 >>> ((8 : Int32) &&& 31).toUInt32).toInt32).toInt8.toInt32)), .val (.int (((p1.toUInt32 >>> ((16 : Int32) &&& 31).toUInt32).toInt32).toInt8.toInt32)), .val (.int (((p1.toUInt32 >>> ((24 : Int32) &&& 31).toUInt32).toInt32).toInt8.toInt32))] [(.int (2 : Int32))]))
    obtain ⟨T10, h10, k10, X10, e10, E10, A10, st10⟩ := newP X0 hx hZ (hw _ (List.mem_of_getElem? (i := 14) rfl)) e0 (g := (mkF m 50 #[.val (.int (2 : Int32)), .val (.int p1), .val (.int (p1.toInt8.toInt32)), .val (.int (((p1.toUInt32 >>> ((8 : Int32) &&& 31).toUInt32).toInt32).toInt8.toInt32)), .val (.int (((p1.toUInt32 >>> ((16 : Int32) &&& 31).toUInt32).toInt32).toInt8.toInt32)), .val (.int (((p1.toUInt32 >>> ((24 : Int32) &&& 31).toUInt32).toInt32).toInt8.toInt32))] [(.int (2 : Int32))])) rfl (hb hby d3_50) rfl (by decide) (cap := 2) (by decide) (by decide) (by decide) (by decide)
    obtain ⟨b10, g10⟩ : ∃ z, z = h0.size := ⟨_, rfl⟩
    rw [← g10] at A10 st10
    have g_b10 : n0 ≤ b10 := Nat.le_trans Z0 (Nat.le_of_eq g10.symm)
    have sz_b10 : h0.size ≤ b10 := Nat.le_trans K0.1 (Nat.le_of_eq g10.symm)
    have Zs_10 : n0 ≤ _ := Nat.le_trans Z0 E10.1
    replace K0 := K0.ext E10
    have A_b10 : AL Z h10 b10 .byte [(.int (0 : Int32)), (.int (0 : Int32))] := AL.new A10 (by decide) (i := 2) rfl
    refine own_via st10 ?_
    show OwnEnds p.tables e below _ (T10.setTop (mkF m 52 #[.val (.int (2 : Int32)), .val (.int p1), .val (.int (p1.toInt8.toInt32)), .val (.int (((p1.toUInt32 >>> ((8 : Int32) &&& 31).toUInt32).toInt32).toInt8.toInt32)), .val (.int (((p1.toUInt32 >>> ((16 : Int32) &&& 31).toUInt32).toInt32).toInt8.toInt32)), .val (.int (((p1.toUInt32 >>> ((24 : Int32) &&& 31).toUInt32).toInt32).toInt8.toInt32))] [(.ref b10)]))
    refine own_via (fun t k => XS.dup X10.here hx rfl (hb hby d3_52) rfl rfl k) ?_
    show OwnEnds p.tables e below _ (T10.setTop (mkF m 53 #[.val (.int (2 : Int32)), .val (.int p1), .val (.int (p1.toInt8.toInt32)), .val (.int (((p1.toUInt32 >>> ((8 : Int32) &&& 31).toUInt32).toInt32).toInt8.toInt32)), .val (.int (((p1.toUInt32 >>> ((16 : Int32) &&& 31).toUInt32).toInt32).toInt8.toInt32)), .val (.int (((p1.toUInt32 >>> ((24 : Int32) &&& 31).toUInt32).toInt32).toInt8.toInt32))] [(.ref b10), (.ref b10)]))
    refine own_via (fun t k => XS.iconst X10.here hx rfl (hb hby d3_53) k) ?_
    show OwnEnds p.tables e below _ (T10.setTop (mkF m 54 #[.val (.int (2 : Int32)), .val (.int p1), .val (.int (p1.toInt8.toInt32)), .val (.int (((p1.toUInt32 >>> ((8 : Int32) &&& 31).toUInt32).toInt32).toInt8.toInt32)), .val (.int (((p1.toUInt32 >>> ((16 : Int32) &&& 31).toUInt32).toInt32).toInt8.toInt32)), .val (.int (((p1.toUInt32 >>> ((24 : Int32) &&& 31).toUInt32).toInt32).toInt8.toInt32))] [(.int (0 : Int32)), (.ref b10), (.ref b10)]))
    refine own_via (fun t k => XS.iloadN X10.here hx rfl (hb hby d3_54) rfl k) ?_
    show OwnEnds p.tables e below _ (T10.setTop (mkF m 55 #[.val (.int (2 : Int32)), .val (.int p1), .val (.int (p1.toInt8.toInt32)), .val (.int (((p1.toUInt32 >>> ((8 : Int32) &&& 31).toUInt32).toInt32).toInt8.toInt32)), .val (.int (((p1.toUInt32 >>> ((16 : Int32) &&& 31).toUInt32).toInt32).toInt8.toInt32)), .val (.int (((p1.toUInt32 >>> ((24 : Int32) &&& 31).toUInt32).toInt32).toInt8.toInt32))] [(.int (p1.toInt8.toInt32)), (.int (0 : Int32)), (.ref b10), (.ref b10)]))
    obtain ⟨T11, h11, X11, e11, W11, AA11, st11⟩ := own_stB X10 hx hZ e10 A_b10 0 rfl (Nat.le_of_ble_eq_true rfl) (g := (mkF m 55 #[.val (.int (2 : Int32)), .val (.int p1), .val (.int (p1.toInt8.toInt32)), .val (.int (((p1.toUInt32 >>> ((8 : Int32) &&& 31).toUInt32).toInt32).toInt8.toInt32)), .val (.int (((p1.toUInt32 >>> ((16 : Int32) &&& 31).toUInt32).toInt32).toInt8.toInt32)), .val (.int (((p1.toUInt32 >>> ((24 : Int32) &&& 31).toUInt32).toInt32).toInt8.toInt32))] [(.int (p1.toInt8.toInt32)), (.int (0 : Int32)), (.ref b10), (.ref b10)])) rfl rfl (hb hby d3_55)
    replace K0 := K0.wr W11 (Or.inr sz_b10)
    have Zs_W11 : n0 ≤ _ := Nat.le_trans Zs_10 (Keep.of_wr W11).1
    replace A_b10 : AL Z h11 b10 .byte [(.int (nar .byte (p1.toInt8.toInt32))), (.int (0 : Int32))] := AA11
    have N11 := Fr.snoc X11 N0 g_b10
    refine own_via st11 ?_
    show OwnEnds p.tables e below _ (T11.setTop (mkF m 56 #[.val (.int (2 : Int32)), .val (.int p1), .val (.int (p1.toInt8.toInt32)), .val (.int (((p1.toUInt32 >>> ((8 : Int32) &&& 31).toUInt32).toInt32).toInt8.toInt32)), .val (.int (((p1.toUInt32 >>> ((16 : Int32) &&& 31).toUInt32).toInt32).toInt8.toInt32)), .val (.int (((p1.toUInt32 >>> ((24 : Int32) &&& 31).toUInt32).toInt32).toInt8.toInt32))] [(.ref b10)]))
    refine own_via (fun t k => XS.dup X11.here hx rfl (hb hby d3_56) rfl rfl k) ?_
    show OwnEnds p.tables e below _ (T11.setTop (mkF m 57 #[.val (.int (2 : Int32)), .val (.int p1), .val (.int (p1.toInt8.toInt32)), .val (.int (((p1.toUInt32 >>> ((8 : Int32) &&& 31).toUInt32).toInt32).toInt8.toInt32)), .val (.int (((p1.toUInt32 >>> ((16 : Int32) &&& 31).toUInt32).toInt32).toInt8.toInt32)), .val (.int (((p1.toUInt32 >>> ((24 : Int32) &&& 31).toUInt32).toInt32).toInt8.toInt32))] [(.ref b10), (.ref b10)]))
    refine own_via (fun t k => XS.iconst X11.here hx rfl (hb hby d3_57) k) ?_
    show OwnEnds p.tables e below _ (T11.setTop (mkF m 58 #[.val (.int (2 : Int32)), .val (.int p1), .val (.int (p1.toInt8.toInt32)), .val (.int (((p1.toUInt32 >>> ((8 : Int32) &&& 31).toUInt32).toInt32).toInt8.toInt32)), .val (.int (((p1.toUInt32 >>> ((16 : Int32) &&& 31).toUInt32).toInt32).toInt8.toInt32)), .val (.int (((p1.toUInt32 >>> ((24 : Int32) &&& 31).toUInt32).toInt32).toInt8.toInt32))] [(.int (1 : Int32)), (.ref b10), (.ref b10)]))
    refine own_via (fun t k => XS.iloadN X11.here hx rfl (hb hby d3_58) rfl k) ?_
    show OwnEnds p.tables e below _ (T11.setTop (mkF m 59 #[.val (.int (2 : Int32)), .val (.int p1), .val (.int (p1.toInt8.toInt32)), .val (.int (((p1.toUInt32 >>> ((8 : Int32) &&& 31).toUInt32).toInt32).toInt8.toInt32)), .val (.int (((p1.toUInt32 >>> ((16 : Int32) &&& 31).toUInt32).toInt32).toInt8.toInt32)), .val (.int (((p1.toUInt32 >>> ((24 : Int32) &&& 31).toUInt32).toInt32).toInt8.toInt32))] [(.int (((p1.toUInt32 >>> ((8 : Int32) &&& 31).toUInt32).toInt32).toInt8.toInt32)), (.int (1 : Int32)), (.ref b10), (.ref b10)]))
    obtain ⟨T12, h12, X12, e12, W12, AA12, st12⟩ := own_stB X11 hx hZ e11 A_b10 1 rfl (Nat.le_of_ble_eq_true rfl) (g := (mkF m 59 #[.val (.int (2 : Int32)), .val (.int p1), .val (.int (p1.toInt8.toInt32)), .val (.int (((p1.toUInt32 >>> ((8 : Int32) &&& 31).toUInt32).toInt32).toInt8.toInt32)), .val (.int (((p1.toUInt32 >>> ((16 : Int32) &&& 31).toUInt32).toInt32).toInt8.toInt32)), .val (.int (((p1.toUInt32 >>> ((24 : Int32) &&& 31).toUInt32).toInt32).toInt8.toInt32))] [(.int (((p1.toUInt32 >>> ((8 : Int32) &&& 31).toUInt32).toInt32).toInt8.toInt32)), (.int (1 : Int32)), (.ref b10), (.ref b10)])) rfl rfl (hb hby d3_59)
    replace K0 := K0.wr W12 (Or.inr sz_b10)
    have Zs_W12 : n0 ≤ _ := Nat.le_trans Zs_W11 (Keep.of_wr W12).1
    replace A_b10 : AL Z h12 b10 .byte [(.int (nar .byte (p1.toInt8.toInt32))), (.int (nar .byte (((p1.toUInt32 >>> ((8 : Int32) &&& 31).toUInt32).toInt32).toInt8.toInt32)))] := AA12
    have N12 := Fr.snoc X12 N11 g_b10
    refine own_via st12 ?_
    show OwnEnds p.tables e below _ (T12.setTop (mkF m 60 #[.val (.int (2 : Int32)), .val (.int p1), .val (.int (p1.toInt8.toInt32)), .val (.int (((p1.toUInt32 >>> ((8 : Int32) &&& 31).toUInt32).toInt32).toInt8.toInt32)), .val (.int (((p1.toUInt32 >>> ((16 : Int32) &&& 31).toUInt32).toInt32).toInt8.toInt32)), .val (.int (((p1.toUInt32 >>> ((24 : Int32) &&& 31).toUInt32).toInt32).toInt8.toInt32))] [(.ref b10)]))
    refine own_retA X12 hx Bd.returns rfl rfl hlk (hb hby d3_60) ?_ (by decide) (by decide)
    rw [e12]
    exact ⟨b10, rfl, N12, K0, sz_b10, A_b10⟩
  · skip
    show OwnEnds p.tables e below _ (s₁.setTop (mkF m 23 #[.val (.int (3 : Int32)), .val (.int p1), .val (.int (p1.toInt8.toInt32)), .val (.int (((p1.toUInt32 >>> ((8 : Int32) &&& 31).toUInt32).toInt32).toInt8.toInt32)), .val (.int (((p1.toUInt32 >>> ((16 : Int32) &&& 31).toUInt32).toInt32).toInt8.toInt32)), .val (.int (((p1.toUInt32 >>> ((24 : Int32) &&& 31).toUInt32).toInt32).toInt8.toInt32))] []))
    refine own_via (fun t k => XS.iloadN X0.here hx rfl (hb hby d3_23) rfl k) ?_
    show OwnEnds p.tables e below _ (s₁.setTop (mkF m 24 #[.val (.int (3 : Int32)), .val (.int p1), .val (.int (p1.toInt8.toInt32)), .val (.int (((p1.toUInt32 >>> ((8 : Int32) &&& 31).toUInt32).toInt32).toInt8.toInt32)), .val (.int (((p1.toUInt32 >>> ((16 : Int32) &&& 31).toUInt32).toInt32).toInt8.toInt32)), .val (.int (((p1.toUInt32 >>> ((24 : Int32) &&& 31).toUInt32).toInt32).toInt8.toInt32))] [(.int (3 : Int32))]))
    have hc24_13 : ¬ ((3 : Int32) = (0 : Int32)) := by decide
    refine own_via (fun t k => XS.ifYes X0.here hx rfl (pc0 := 24) (pc' := 31) rfl (hb hby d3_24) rfl ((if0 _ _).trans (feq hc24_13).2) (by decide) (by decide) k) ?_
    show OwnEnds p.tables e below _ (s₁.setTop (mkF m 31 #[.val (.int (3 : Int32)), .val (.int p1), .val (.int (p1.toInt8.toInt32)), .val (.int (((p1.toUInt32 >>> ((8 : Int32) &&& 31).toUInt32).toInt32).toInt8.toInt32)), .val (.int (((p1.toUInt32 >>> ((16 : Int32) &&& 31).toUInt32).toInt32).toInt8.toInt32)), .val (.int (((p1.toUInt32 >>> ((24 : Int32) &&& 31).toUInt32).toInt32).toInt8.toInt32))] []))
    refine own_via (fun t k => XS.iloadN X0.here hx rfl (hb hby d3_31) rfl k) ?_
    show OwnEnds p.tables e below _ (s₁.setTop (mkF m 32 #[.val (.int (3 : Int32)), .val (.int p1), .val (.int (p1.toInt8.toInt32)), .val (.int (((p1.toUInt32 >>> ((8 : Int32) &&& 31).toUInt32).toInt32).toInt8.toInt32)), .val (.int (((p1.toUInt32 >>> ((16 : Int32) &&& 31).toUInt32).toInt32).toInt8.toInt32)), .val (.int (((p1.toUInt32 >>> ((24 : Int32) &&& 31).toUInt32).toInt32).toInt8.toInt32))] [(.int (3 : Int32))]))
    refine own_via (fun t k => XS.iconst X0.here hx rfl (hb hby d3_32) k) ?_
    show OwnEnds p.tables e below _ (s₁.setTop (mkF m 33 #[.val (.int (3 : Int32)), .val (.int p1), .val (.int (p1.toInt8.toInt32)), .val (.int (((p1.toUInt32 >>> ((8 : Int32) &&& 31).toUInt32).toInt32).toInt8.toInt32)), .val (.int (((p1.toUInt32 >>> ((16 : Int32) &&& 31).toUInt32).toInt32).toInt8.toInt32)), .val (.int (((p1.toUInt32 >>> ((24 : Int32) &&& 31).toUInt32).toInt32).toInt8.toInt32))] [(.int (1 : Int32)), (.int (3 : Int32))]))
    have hc33_14 : ¬ ((3 : Int32) = (1 : Int32)) := by decide
    refine own_via (fun t k => XS.icmpYes X0.here hx rfl (pc0 := 33) (pc' := 44) rfl (hb hby d3_33) rfl (feq hc33_14).2 (by decide) (by decide) k) ?_
    show OwnEnds p.tables e below _ (s₁.setTop (mkF m 44 #[.val (.int (3 : Int32)), .val (.int p1), .val (.int (p1.toInt8.toInt32)), .val (.int (((p1.toUInt32 >>> ((8 : Int32) &&& 31).toUInt32).toInt32).toInt8.toInt32)), .val (.int (((p1.toUInt32 >>> ((16 : Int32) &&& 31).toUInt32).toInt32).toInt8.toInt32)), .val (.int (((p1.toUInt32 >>> ((24 : Int32) &&& 31).toUInt32).toInt32).toInt8.toInt32))] []))
    refine own_via (fun t k => XS.iloadN X0.here hx rfl (hb hby d3_44) rfl k) ?_
    show OwnEnds p.tables e below _ (s₁.setTop (mkF m 45 #[.val (.int (3 : Int32)), .val (.int p1), .val (.int (p1.toInt8.toInt32)), .val (.int (((p1.toUInt32 >>> ((8 : Int32) &&& 31).toUInt32).toInt32).toInt8.toInt32)), .val (.int (((p1.toUInt32 >>> ((16 : Int32) &&& 31).toUInt32).toInt32).toInt8.toInt32)), .val (.int (((p1.toUInt32 >>> ((24 : Int32) &&& 31).toUInt32).toInt32).toInt8.toInt32))] [(.int (3 : Int32))]))
    refine own_via (fun t k => XS.iconst X0.here hx rfl (hb hby d3_45) k) ?_
    show OwnEnds p.tables e below _ (s₁.setTop (mkF m 46 #[.val (.int (3 : Int32)), .val (.int p1), .val (.int (p1.toInt8.toInt32)), .val (.int (((p1.toUInt32 >>> ((8 : Int32) &&& 31).toUInt32).toInt32).toInt8.toInt32)), .val (.int (((p1.toUInt32 >>> ((16 : Int32) &&& 31).toUInt32).toInt32).toInt8.toInt32)), .val (.int (((p1.toUInt32 >>> ((24 : Int32) &&& 31).toUInt32).toInt32).toInt8.toInt32))] [(.int (2 : Int32)), (.int (3 : Int32))]))
    have hc46_15 : ¬ ((3 : Int32) = (2 : Int32)) := by decide
    refine own_via (fun t k => XS.icmpYes X0.here hx rfl (pc0 := 46) (pc' := 61) rfl (hb hby d3_46) rfl (feq hc46_15).2 (by decide) (by decide) k) ?_
    show OwnEnds p.tables e below _ (s₁.setTop (mkF m 61 #[.val (.int (3 : Int32)), .val (.int p1), .val (.int (p1.toInt8.toInt32)), .val (.int (((p1.toUInt32 >>> ((8 : Int32) &&& 31).toUInt32).toInt32).toInt8.toInt32)), .val (.int (((p1.toUInt32 >>> ((16 : Int32) &&& 31).toUInt32).toInt32).toInt8.toInt32)), .val (.int (((p1.toUInt32 >>> ((24 : Int32) &&& 31).toUInt32).toInt32).toInt8.toInt32))] []))
    refine own_via (fun t k => XS.iloadN X0.here hx rfl (hb hby d3_61) rfl k) ?_
    show OwnEnds p.tables e below _ (s₁.setTop (mkF m 62 #[.val (.int (3 : Int32)), .val (.int p1), .val (.int (p1.toInt8.toInt32)), .val (.int (((p1.toUInt32 >>> ((8 : Int32) &&& 31).toUInt32).toInt32).toInt8.toInt32)), .val (.int (((p1.toUInt32 >>> ((16 : Int32) &&& 31).toUInt32).toInt32).toInt8.toInt32)), .val (.int (((p1.toUInt32 >>> ((24 : Int32) &&& 31).toUInt32).toInt32).toInt8.toInt32))] [(.int (3 : Int32))]))
    refine own_via (fun t k => XS.iconst X0.here hx rfl (hb hby d3_62) k) ?_
    show OwnEnds p.tables e below _ (s₁.setTop (mkF m 63 #[.val (.int (3 : Int32)), .val (.int p1), .val (.int (p1.toInt8.toInt32)), .val (.int (((p1.toUInt32 >>> ((8 : Int32) &&& 31).toUInt32).toInt32).toInt8.toInt32)), .val (.int (((p1.toUInt32 >>> ((16 : Int32) &&& 31).toUInt32).toInt32).toInt8.toInt32)), .val (.int (((p1.toUInt32 >>> ((24 : Int32) &&& 31).toUInt32).toInt32).toInt8.toInt32))] [(.int (3 : Int32)), (.int (3 : Int32))]))
    have hc63_16 : (3 : Int32) = (3 : Int32) := by decide
    refine own_via (fun t k => XS.icmpNo X0.here hx rfl (hb hby d3_63) rfl (teq hc63_16).2 k) ?_
    show OwnEnds p.tables e below _ (s₁.setTop (mkF m 66 #[.val (.int (3 : Int32)), .val (.int p1), .val (.int (p1.toInt8.toInt32)), .val (.int (((p1.toUInt32 >>> ((8 : Int32) &&& 31).toUInt32).toInt32).toInt8.toInt32)), .val (.int (((p1.toUInt32 >>> ((16 : Int32) &&& 31).toUInt32).toInt32).toInt8.toInt32)), .val (.int (((p1.toUInt32 >>> ((24 : Int32) &&& 31).toUInt32).toInt32).toInt8.toInt32))] []))
    refine own_via (fun t k => XS.iconst X0.here hx rfl (hb hby d3_66) k) ?_
    show OwnEnds p.tables e below _ (s₁.setTop (mkF m 67 #[.val (.int (3 : Int32)), .val (.int p1), .val (.int (p1.toInt8.toInt32)), .val (.int (((p1.toUInt32 >>> ((8 : Int32) &&& 31).toUInt32).toInt32).toInt8.toInt32)), .val (.int (((p1.toUInt32 >>> ((16 : Int32) &&& 31).toUInt32).toInt32).toInt8.toInt32)), .val (.int (((p1.toUInt32 >>> ((24 : Int32) &&& 31).toUInt32).toInt32).toInt8.toInt32))] [(.int (3 : Int32))]))
    obtain ⟨T17, h17, k17, X17, e17, E17, A17, st17⟩ := newP X0 hx hZ (hw _ (List.mem_of_getElem? (i := 14) rfl)) e0 (g := (mkF m 67 #[.val (.int (3 : Int32)), .val (.int p1), .val (.int (p1.toInt8.toInt32)), .val (.int (((p1.toUInt32 >>> ((8 : Int32) &&& 31).toUInt32).toInt32).toInt8.toInt32)), .val (.int (((p1.toUInt32 >>> ((16 : Int32) &&& 31).toUInt32).toInt32).toInt8.toInt32)), .val (.int (((p1.toUInt32 >>> ((24 : Int32) &&& 31).toUInt32).toInt32).toInt8.toInt32))] [(.int (3 : Int32))])) rfl (hb hby d3_67) rfl (by decide) (cap := 3) (by decide) (by decide) (by decide) (by decide)
    obtain ⟨b17, g17⟩ : ∃ z, z = h0.size := ⟨_, rfl⟩
    rw [← g17] at A17 st17
    have g_b17 : n0 ≤ b17 := Nat.le_trans Z0 (Nat.le_of_eq g17.symm)
    have sz_b17 : h0.size ≤ b17 := Nat.le_trans K0.1 (Nat.le_of_eq g17.symm)
    have Zs_17 : n0 ≤ _ := Nat.le_trans Z0 E17.1
    replace K0 := K0.ext E17
    have A_b17 : AL Z h17 b17 .byte [(.int (0 : Int32)), (.int (0 : Int32)), (.int (0 : Int32))] := AL.new A17 (by decide) (i := 3) rfl
    refine own_via st17 ?_
    show OwnEnds p.tables e below _ (T17.setTop (mkF m 69 #[.val (.int (3 : Int32)), .val (.int p1), .val (.int (p1.toInt8.toInt32)), .val (.int (((p1.toUInt32 >>> ((8 : Int32) &&& 31).toUInt32).toInt32).toInt8.toInt32)), .val (.int (((p1.toUInt32 >>> ((16 : Int32) &&& 31).toUInt32).toInt32).toInt8.toInt32)), .val (.int (((p1.toUInt32 >>> ((24 : Int32) &&& 31).toUInt32).toInt32).toInt8.toInt32))] [(.ref b17)]))
    refine own_via (fun t k => XS.dup X17.here hx rfl (hb hby d3_69) rfl rfl k) ?_
    show OwnEnds p.tables e below _ (T17.setTop (mkF m 70 #[.val (.int (3 : Int32)), .val (.int p1), .val (.int (p1.toInt8.toInt32)), .val (.int (((p1.toUInt32 >>> ((8 : Int32) &&& 31).toUInt32).toInt32).toInt8.toInt32)), .val (.int (((p1.toUInt32 >>> ((16 : Int32) &&& 31).toUInt32).toInt32).toInt8.toInt32)), .val (.int (((p1.toUInt32 >>> ((24 : Int32) &&& 31).toUInt32).toInt32).toInt8.toInt32))] [(.ref b17), (.ref b17)]))
    refine own_via (fun t k => XS.iconst X17.here hx rfl (hb hby d3_70) k) ?_
    show OwnEnds p.tables e below _ (T17.setTop (mkF m 71 #[.val (.int (3 : Int32)), .val (.int p1), .val (.int (p1.toInt8.toInt32)), .val (.int (((p1.toUInt32 >>> ((8 : Int32) &&& 31).toUInt32).toInt32).toInt8.toInt32)), .val (.int (((p1.toUInt32 >>> ((16 : Int32) &&& 31).toUInt32).toInt32).toInt8.toInt32)), .val (.int (((p1.toUInt32 >>> ((24 : Int32) &&& 31).toUInt32).toInt32).toInt8.toInt32))] [(.int (0 : Int32)), (.ref b17), (.ref b17)]))
    refine own_via (fun t k => XS.iloadN X17.here hx rfl (hb hby d3_71) rfl k) ?_
    show OwnEnds p.tables e below _ (T17.setTop (mkF m 72 #[.val (.int (3 : Int32)), .val (.int p1), .val (.int (p1.toInt8.toInt32)), .val (.int (((p1.toUInt32 >>> ((8 : Int32) &&& 31).toUInt32).toInt32).toInt8.toInt32)), .val (.int (((p1.toUInt32 >>> ((16 : Int32) &&& 31).toUInt32).toInt32).toInt8.toInt32)), .val (.int (((p1.toUInt32 >>> ((24 : Int32) &&& 31).toUInt32).toInt32).toInt8.toInt32))] [(.int (p1.toInt8.toInt32)), (.int (0 : Int32)), (.ref b17), (.ref b17)]))
    obtain ⟨T18, h18, X18, e18, W18, AA18, st18⟩ := own_stB X17 hx hZ e17 A_b17 0 rfl (Nat.le_of_ble_eq_true rfl) (g := (mkF m 72 #[.val (.int (3 : Int32)), .val (.int p1), .val (.int (p1.toInt8.toInt32)), .val (.int (((p1.toUInt32 >>> ((8 : Int32) &&& 31).toUInt32).toInt32).toInt8.toInt32)), .val (.int (((p1.toUInt32 >>> ((16 : Int32) &&& 31).toUInt32).toInt32).toInt8.toInt32)), .val (.int (((p1.toUInt32 >>> ((24 : Int32) &&& 31).toUInt32).toInt32).toInt8.toInt32))] [(.int (p1.toInt8.toInt32)), (.int (0 : Int32)), (.ref b17), (.ref b17)])) rfl rfl (hb hby d3_72)
    replace K0 := K0.wr W18 (Or.inr sz_b17)
    have Zs_W18 : n0 ≤ _ := Nat.le_trans Zs_17 (Keep.of_wr W18).1
    replace A_b17 : AL Z h18 b17 .byte [(.int (nar .byte (p1.toInt8.toInt32))), (.int (0 : Int32)), (.int (0 : Int32))] := AA18
    have N18 := Fr.snoc X18 N0 g_b17
    refine own_via st18 ?_
    show OwnEnds p.tables e below _ (T18.setTop (mkF m 73 #[.val (.int (3 : Int32)), .val (.int p1), .val (.int (p1.toInt8.toInt32)), .val (.int (((p1.toUInt32 >>> ((8 : Int32) &&& 31).toUInt32).toInt32).toInt8.toInt32)), .val (.int (((p1.toUInt32 >>> ((16 : Int32) &&& 31).toUInt32).toInt32).toInt8.toInt32)), .val (.int (((p1.toUInt32 >>> ((24 : Int32) &&& 31).toUInt32).toInt32).toInt8.toInt32))] [(.ref b17)]))
    refine own_via (fun t k => XS.dup X18.here hx rfl (hb hby d3_73) rfl rfl k) ?_
    show OwnEnds p.tables e below _ (T18.setTop (mkF m 74 #[.val (.int (3 : Int32)), .val (.int p1), .val (.int (p1.toInt8.toInt32)), .val (.int (((p1.toUInt32 >>> ((8 : Int32) &&& 31).toUInt32).toInt32).toInt8.toInt32)), .val (.int (((p1.toUInt32 >>> ((16 : Int32) &&& 31).toUInt32).toInt32).toInt8.toInt32)), .val (.int (((p1.toUInt32 >>> ((24 : Int32) &&& 31).toUInt32).toInt32).toInt8.toInt32))] [(.ref b17), (.ref b17)]))
    refine own_via (fun t k => XS.iconst X18.here hx rfl (hb hby d3_74) k) ?_
    show OwnEnds p.tables e below _ (T18.setTop (mkF m 75 #[.val (.int (3 : Int32)), .val (.int p1), .val (.int (p1.toInt8.toInt32)), .val (.int (((p1.toUInt32 >>> ((8 : Int32) &&& 31).toUInt32).toInt32).toInt8.toInt32)), .val (.int (((p1.toUInt32 >>> ((16 : Int32) &&& 31).toUInt32).toInt32).toInt8.toInt32)), .val (.int (((p1.toUInt32 >>> ((24 : Int32) &&& 31).toUInt32).toInt32).toInt8.toInt32))] [(.int (1 : Int32)), (.ref b17), (.ref b17)]))
    refine own_via (fun t k => XS.iloadN X18.here hx rfl (hb hby d3_75) rfl k) ?_
    show OwnEnds p.tables e below _ (T18.setTop (mkF m 76 #[.val (.int (3 : Int32)), .val (.int p1), .val (.int (p1.toInt8.toInt32)), .val (.int (((p1.toUInt32 >>> ((8 : Int32) &&& 31).toUInt32).toInt32).toInt8.toInt32)), .val (.int (((p1.toUInt32 >>> ((16 : Int32) &&& 31).toUInt32).toInt32).toInt8.toInt32)), .val (.int (((p1.toUInt32 >>> ((24 : Int32) &&& 31).toUInt32).toInt32).toInt8.toInt32))] [(.int (((p1.toUInt32 >>> ((8 : Int32) &&& 31).toUInt32).toInt32).toInt8.toInt32)), (.int (1 : Int32)), (.ref b17), (.ref b17)]))
    obtain ⟨T19, h19, X19, e19, W19, AA19, st19⟩ := own_stB X18 hx hZ e18 A_b17 1 rfl (Nat.le_of_ble_eq_true rfl) (g := (mkF m 76 #[.val (.int (3 : Int32)), .val (.int p1), .val (.int (p1.toInt8.toInt32)), .val (.int (((p1.toUInt32 >>> ((8 : Int32) &&& 31).toUInt32).toInt32).toInt8.toInt32)), .val (.int (((p1.toUInt32 >>> ((16 : Int32) &&& 31).toUInt32).toInt32).toInt8.toInt32)), .val (.int (((p1.toUInt32 >>> ((24 : Int32) &&& 31).toUInt32).toInt32).toInt8.toInt32))] [(.int (((p1.toUInt32 >>> ((8 : Int32) &&& 31).toUInt32).toInt32).toInt8.toInt32)), (.int (1 : Int32)), (.ref b17), (.ref b17)])) rfl rfl (hb hby d3_76)
    replace K0 := K0.wr W19 (Or.inr sz_b17)
    have Zs_W19 : n0 ≤ _ := Nat.le_trans Zs_W18 (Keep.of_wr W19).1
    replace A_b17 : AL Z h19 b17 .byte [(.int (nar .byte (p1.toInt8.toInt32))), (.int (nar .byte (((p1.toUInt32 >>> ((8 : Int32) &&& 31).toUInt32).toInt32).toInt8.toInt32))), (.int (0 : Int32))] := AA19
    have N19 := Fr.snoc X19 N18 g_b17
    refine own_via st19 ?_
    show OwnEnds p.tables e below _ (T19.setTop (mkF m 77 #[.val (.int (3 : Int32)), .val (.int p1), .val (.int (p1.toInt8.toInt32)), .val (.int (((p1.toUInt32 >>> ((8 : Int32) &&& 31).toUInt32).toInt32).toInt8.toInt32)), .val (.int (((p1.toUInt32 >>> ((16 : Int32) &&& 31).toUInt32).toInt32).toInt8.toInt32)), .val (.int (((p1.toUInt32 >>> ((24 : Int32) &&& 31).toUInt32).toInt32).toInt8.toInt32))] [(.ref b17)]))
    refine own_via (fun t k => XS.dup X19.here hx rfl (hb hby d3_77) rfl rfl k) ?_
    show OwnEnds p.tables e below _ (T19.setTop (mkF m 78 #[.val (.int (3 : Int32)), .val (.int p1), .val (.int (p1.toInt8.toInt32)), .val (.int (((p1.toUInt32 >>> ((8 : Int32) &&& 31).toUInt32).toInt32).toInt8.toInt32)), .val (.int (((p1.toUInt32 >>> ((16 : Int32) &&& 31).toUInt32).toInt32).toInt8.toInt32)), .val (.int (((p1.toUInt32 >>> ((24 : Int32) &&& 31).toUInt32).toInt32).toInt8.toInt32))] [(.ref b17), (.ref b17)]))
    refine own_via (fun t k => XS.iconst X19.here hx rfl (hb hby d3_78) k) ?_
    show OwnEnds p.tables e below _ (T19.setTop (mkF m 79 #[.val (.int (3 : Int32)), .val (.int p1), .val (.int (p1.toInt8.toInt32)), .val (.int (((p1.toUInt32 >>> ((8 : Int32) &&& 31).toUInt32).toInt32).toInt8.toInt32)), .val (.int (((p1.toUInt32 >>> ((16 : Int32) &&& 31).toUInt32).toInt32).toInt8.toInt32)), .val (.int (((p1.toUInt32 >>> ((24 : Int32) &&& 31).toUInt32).toInt32).toInt8.toInt32))] [(.int (2 : Int32)), (.ref b17), (.ref b17)]))
    refine own_via (fun t k => XS.iload X19.here hx rfl (hb hby d3_79) rfl k) ?_
    show OwnEnds p.tables e below _ (T19.setTop (mkF m 81 #[.val (.int (3 : Int32)), .val (.int p1), .val (.int (p1.toInt8.toInt32)), .val (.int (((p1.toUInt32 >>> ((8 : Int32) &&& 31).toUInt32).toInt32).toInt8.toInt32)), .val (.int (((p1.toUInt32 >>> ((16 : Int32) &&& 31).toUInt32).toInt32).toInt8.toInt32)), .val (.int (((p1.toUInt32 >>> ((24 : Int32) &&& 31).toUInt32).toInt32).toInt8.toInt32))] [(.int (((p1.toUInt32 >>> ((16 : Int32) &&& 31).toUInt32).toInt32).toInt8.toInt32)), (.int (2 : Int32)), (.ref b17), (.ref b17)]))
    obtain ⟨T20, h20, X20, e20, W20, AA20, st20⟩ := own_stB X19 hx hZ e19 A_b17 2 rfl (Nat.le_of_ble_eq_true rfl) (g := (mkF m 81 #[.val (.int (3 : Int32)), .val (.int p1), .val (.int (p1.toInt8.toInt32)), .val (.int (((p1.toUInt32 >>> ((8 : Int32) &&& 31).toUInt32).toInt32).toInt8.toInt32)), .val (.int (((p1.toUInt32 >>> ((16 : Int32) &&& 31).toUInt32).toInt32).toInt8.toInt32)), .val (.int (((p1.toUInt32 >>> ((24 : Int32) &&& 31).toUInt32).toInt32).toInt8.toInt32))] [(.int (((p1.toUInt32 >>> ((16 : Int32) &&& 31).toUInt32).toInt32).toInt8.toInt32)), (.int (2 : Int32)), (.ref b17), (.ref b17)])) rfl rfl (hb hby d3_81)
    replace K0 := K0.wr W20 (Or.inr sz_b17)
    have Zs_W20 : n0 ≤ _ := Nat.le_trans Zs_W19 (Keep.of_wr W20).1
    replace A_b17 : AL Z h20 b17 .byte [(.int (nar .byte (p1.toInt8.toInt32))), (.int (nar .byte (((p1.toUInt32 >>> ((8 : Int32) &&& 31).toUInt32).toInt32).toInt8.toInt32))), (.int (nar .byte (((p1.toUInt32 >>> ((16 : Int32) &&& 31).toUInt32).toInt32).toInt8.toInt32)))] := AA20
    have N20 := Fr.snoc X20 N19 g_b17
    refine own_via st20 ?_
    show OwnEnds p.tables e below _ (T20.setTop (mkF m 82 #[.val (.int (3 : Int32)), .val (.int p1), .val (.int (p1.toInt8.toInt32)), .val (.int (((p1.toUInt32 >>> ((8 : Int32) &&& 31).toUInt32).toInt32).toInt8.toInt32)), .val (.int (((p1.toUInt32 >>> ((16 : Int32) &&& 31).toUInt32).toInt32).toInt8.toInt32)), .val (.int (((p1.toUInt32 >>> ((24 : Int32) &&& 31).toUInt32).toInt32).toInt8.toInt32))] [(.ref b17)]))
    refine own_retA X20 hx Bd.returns rfl rfl hlk (hb hby d3_82) ?_ (by decide) (by decide)
    rw [e20]
    exact ⟨b17, rfl, N20, K0, sz_b17, A_b17⟩
  · skip
    show OwnEnds p.tables e below _ (s₁.setTop (mkF m 23 #[.val (.int (4 : Int32)), .val (.int p1), .val (.int (p1.toInt8.toInt32)), .val (.int (((p1.toUInt32 >>> ((8 : Int32) &&& 31).toUInt32).toInt32).toInt8.toInt32)), .val (.int (((p1.toUInt32 >>> ((16 : Int32) &&& 31).toUInt32).toInt32).toInt8.toInt32)), .val (.int (((p1.toUInt32 >>> ((24 : Int32) &&& 31).toUInt32).toInt32).toInt8.toInt32))] []))
    refine own_via (fun t k => XS.iloadN X0.here hx rfl (hb hby d3_23) rfl k) ?_
    show OwnEnds p.tables e below _ (s₁.setTop (mkF m 24 #[.val (.int (4 : Int32)), .val (.int p1), .val (.int (p1.toInt8.toInt32)), .val (.int (((p1.toUInt32 >>> ((8 : Int32) &&& 31).toUInt32).toInt32).toInt8.toInt32)), .val (.int (((p1.toUInt32 >>> ((16 : Int32) &&& 31).toUInt32).toInt32).toInt8.toInt32)), .val (.int (((p1.toUInt32 >>> ((24 : Int32) &&& 31).toUInt32).toInt32).toInt8.toInt32))] [(.int (4 : Int32))]))
    have hc24_21 : ¬ ((4 : Int32) = (0 : Int32)) := by decide
    refine own_via (fun t k => XS.ifYes X0.here hx rfl (pc0 := 24) (pc' := 31) rfl (hb hby d3_24) rfl ((if0 _ _).trans (feq hc24_21).2) (by decide) (by decide) k) ?_
    show OwnEnds p.tables e below _ (s₁.setTop (mkF m 31 #[.val (.int (4 : Int32)), .val (.int p1), .val (.int (p1.toInt8.toInt32)), .val (.int (((p1.toUInt32 >>> ((8 : Int32) &&& 31).toUInt32).toInt32).toInt8.toInt32)), .val (.int (((p1.toUInt32 >>> ((16 : Int32) &&& 31).toUInt32).toInt32).toInt8.toInt32)), .val (.int (((p1.toUInt32 >>> ((24 : Int32) &&& 31).toUInt32).toInt32).toInt8.toInt32))] []))
    refine own_via (fun t k => XS.iloadN X0.here hx rfl (hb hby d3_31) rfl k) ?_
    show OwnEnds p.tables e below _ (s₁.setTop (mkF m 32 #[.val (.int (4 : Int32)), .val (.int p1), .val (.int (p1.toInt8.toInt32)), .val (.int (((p1.toUInt32 >>> ((8 : Int32) &&& 31).toUInt32).toInt32).toInt8.toInt32)), .val (.int (((p1.toUInt32 >>> ((16 : Int32) &&& 31).toUInt32).toInt32).toInt8.toInt32)), .val (.int (((p1.toUInt32 >>> ((24 : Int32) &&& 31).toUInt32).toInt32).toInt8.toInt32))] [(.int (4 : Int32))]))
    refine own_via (fun t k => XS.iconst X0.here hx rfl (hb hby d3_32) k) ?_
    show OwnEnds p.tables e below _ (s₁.setTop (mkF m 33 #[.val (.int (4 : Int32)), .val (.int p1), .val (.int (p1.toInt8.toInt32)), .val (.int (((p1.toUInt32 >>> ((8 : Int32) &&& 31).toUInt32).toInt32).toInt8.toInt32)), .val (.int (((p1.toUInt32 >>> ((16 : Int32) &&& 31).toUInt32).toInt32).toInt8.toInt32)), .val (.int (((p1.toUInt32 >>> ((24 : Int32) &&& 31).toUInt32).toInt32).toInt8.toInt32))] [(.int (1 : Int32)), (.int (4 : Int32))]))
    have hc33_22 : ¬ ((4 : Int32) = (1 : Int32)) := by decide
    refine own_via (fun t k => XS.icmpYes X0.here hx rfl (pc0 := 33) (pc' := 44) rfl (hb hby d3_33) rfl (feq hc33_22).2 (by decide) (by decide) k) ?_
    show OwnEnds p.tables e below _ (s₁.setTop (mkF m 44 #[.val (.int (4 : Int32)), .val (.int p1), .val (.int (p1.toInt8.toInt32)), .val (.int (((p1.toUInt32 >>> ((8 : Int32) &&& 31).toUInt32).toInt32).toInt8.toInt32)), .val (.int (((p1.toUInt32 >>> ((16 : Int32) &&& 31).toUInt32).toInt32).toInt8.toInt32)), .val (.int (((p1.toUInt32 >>> ((24 : Int32) &&& 31).toUInt32).toInt32).toInt8.toInt32))] []))
    refine own_via (fun t k => XS.iloadN X0.here hx rfl (hb hby d3_44) rfl k) ?_
    show OwnEnds p.tables e below _ (s₁.setTop (mkF m 45 #[.val (.int (4 : Int32)), .val (.int p1), .val (.int (p1.toInt8.toInt32)), .val (.int (((p1.toUInt32 >>> ((8 : Int32) &&& 31).toUInt32).toInt32).toInt8.toInt32)), .val (.int (((p1.toUInt32 >>> ((16 : Int32) &&& 31).toUInt32).toInt32).toInt8.toInt32)), .val (.int (((p1.toUInt32 >>> ((24 : Int32) &&& 31).toUInt32).toInt32).toInt8.toInt32))] [(.int (4 : Int32))]))
    refine own_via (fun t k => XS.iconst X0.here hx rfl (hb hby d3_45) k) ?_
    show OwnEnds p.tables e below _ (s₁.setTop (mkF m 46 #[.val (.int (4 : Int32)), .val (.int p1), .val (.int (p1.toInt8.toInt32)), .val (.int (((p1.toUInt32 >>> ((8 : Int32) &&& 31).toUInt32).toInt32).toInt8.toInt32)), .val (.int (((p1.toUInt32 >>> ((16 : Int32) &&& 31).toUInt32).toInt32).toInt8.toInt32)), .val (.int (((p1.toUInt32 >>> ((24 : Int32) &&& 31).toUInt32).toInt32).toInt8.toInt32))] [(.int (2 : Int32)), (.int (4 : Int32))]))
    have hc46_23 : ¬ ((4 : Int32) = (2 : Int32)) := by decide
    refine own_via (fun t k => XS.icmpYes X0.here hx rfl (pc0 := 46) (pc' := 61) rfl (hb hby d3_46) rfl (feq hc46_23).2 (by decide) (by decide) k) ?_
    show OwnEnds p.tables e below _ (s₁.setTop (mkF m 61 #[.val (.int (4 : Int32)), .val (.int p1), .val (.int (p1.toInt8.toInt32)), .val (.int (((p1.toUInt32 >>> ((8 : Int32) &&& 31).toUInt32).toInt32).toInt8.toInt32)), .val (.int (((p1.toUInt32 >>> ((16 : Int32) &&& 31).toUInt32).toInt32).toInt8.toInt32)), .val (.int (((p1.toUInt32 >>> ((24 : Int32) &&& 31).toUInt32).toInt32).toInt8.toInt32))] []))
    refine own_via (fun t k => XS.iloadN X0.here hx rfl (hb hby d3_61) rfl k) ?_
    show OwnEnds p.tables e below _ (s₁.setTop (mkF m 62 #[.val (.int (4 : Int32)), .val (.int p1), .val (.int (p1.toInt8.toInt32)), .val (.int (((p1.toUInt32 >>> ((8 : Int32) &&& 31).toUInt32).toInt32).toInt8.toInt32)), .val (.int (((p1.toUInt32 >>> ((16 : Int32) &&& 31).toUInt32).toInt32).toInt8.toInt32)), .val (.int (((p1.toUInt32 >>> ((24 : Int32) &&& 31).toUInt32).toInt32).toInt8.toInt32))] [(.int (4 : Int32))]))
    refine own_via (fun t k => XS.iconst X0.here hx rfl (hb hby d3_62) k) ?_
    show OwnEnds p.tables e below _ (s₁.setTop (mkF m 63 #[.val (.int (4 : Int32)), .val (.int p1), .val (.int (p1.toInt8.toInt32)), .val (.int (((p1.toUInt32 >>> ((8 : Int32) &&& 31).toUInt32).toInt32).toInt8.toInt32)), .val (.int (((p1.toUInt32 >>> ((16 : Int32) &&& 31).toUInt32).toInt32).toInt8.toInt32)), .val (.int (((p1.toUInt32 >>> ((24 : Int32) &&& 31).toUInt32).toInt32).toInt8.toInt32))] [(.int (3 : Int32)), (.int (4 : Int32))]))
    have hc63_24 : ¬ ((4 : Int32) = (3 : Int32)) := by decide
    refine own_via (fun t k => XS.icmpYes X0.here hx rfl (pc0 := 63) (pc' := 83) rfl (hb hby d3_63) rfl (feq hc63_24).2 (by decide) (by decide) k) ?_
    show OwnEnds p.tables e below _ (s₁.setTop (mkF m 83 #[.val (.int (4 : Int32)), .val (.int p1), .val (.int (p1.toInt8.toInt32)), .val (.int (((p1.toUInt32 >>> ((8 : Int32) &&& 31).toUInt32).toInt32).toInt8.toInt32)), .val (.int (((p1.toUInt32 >>> ((16 : Int32) &&& 31).toUInt32).toInt32).toInt8.toInt32)), .val (.int (((p1.toUInt32 >>> ((24 : Int32) &&& 31).toUInt32).toInt32).toInt8.toInt32))] []))
    refine own_via (fun t k => XS.iconst X0.here hx rfl (hb hby d3_83) k) ?_
    show OwnEnds p.tables e below _ (s₁.setTop (mkF m 84 #[.val (.int (4 : Int32)), .val (.int p1), .val (.int (p1.toInt8.toInt32)), .val (.int (((p1.toUInt32 >>> ((8 : Int32) &&& 31).toUInt32).toInt32).toInt8.toInt32)), .val (.int (((p1.toUInt32 >>> ((16 : Int32) &&& 31).toUInt32).toInt32).toInt8.toInt32)), .val (.int (((p1.toUInt32 >>> ((24 : Int32) &&& 31).toUInt32).toInt32).toInt8.toInt32))] [(.int (4 : Int32))]))
    obtain ⟨T25, h25, k25, X25, e25, E25, A25, st25⟩ := newP X0 hx hZ (hw _ (List.mem_of_getElem? (i := 14) rfl)) e0 (g := (mkF m 84 #[.val (.int (4 : Int32)), .val (.int p1), .val (.int (p1.toInt8.toInt32)), .val (.int (((p1.toUInt32 >>> ((8 : Int32) &&& 31).toUInt32).toInt32).toInt8.toInt32)), .val (.int (((p1.toUInt32 >>> ((16 : Int32) &&& 31).toUInt32).toInt32).toInt8.toInt32)), .val (.int (((p1.toUInt32 >>> ((24 : Int32) &&& 31).toUInt32).toInt32).toInt8.toInt32))] [(.int (4 : Int32))])) rfl (hb hby d3_84) rfl (by decide) (cap := 4) (by decide) (by decide) (by decide) (by decide)
    obtain ⟨b25, g25⟩ : ∃ z, z = h0.size := ⟨_, rfl⟩
    rw [← g25] at A25 st25
    have g_b25 : n0 ≤ b25 := Nat.le_trans Z0 (Nat.le_of_eq g25.symm)
    have sz_b25 : h0.size ≤ b25 := Nat.le_trans K0.1 (Nat.le_of_eq g25.symm)
    have Zs_25 : n0 ≤ _ := Nat.le_trans Z0 E25.1
    replace K0 := K0.ext E25
    have A_b25 : AL Z h25 b25 .byte [(.int (0 : Int32)), (.int (0 : Int32)), (.int (0 : Int32)), (.int (0 : Int32))] := AL.new A25 (by decide) (i := 4) rfl
    refine own_via st25 ?_
    show OwnEnds p.tables e below _ (T25.setTop (mkF m 86 #[.val (.int (4 : Int32)), .val (.int p1), .val (.int (p1.toInt8.toInt32)), .val (.int (((p1.toUInt32 >>> ((8 : Int32) &&& 31).toUInt32).toInt32).toInt8.toInt32)), .val (.int (((p1.toUInt32 >>> ((16 : Int32) &&& 31).toUInt32).toInt32).toInt8.toInt32)), .val (.int (((p1.toUInt32 >>> ((24 : Int32) &&& 31).toUInt32).toInt32).toInt8.toInt32))] [(.ref b25)]))
    refine own_via (fun t k => XS.dup X25.here hx rfl (hb hby d3_86) rfl rfl k) ?_
    show OwnEnds p.tables e below _ (T25.setTop (mkF m 87 #[.val (.int (4 : Int32)), .val (.int p1), .val (.int (p1.toInt8.toInt32)), .val (.int (((p1.toUInt32 >>> ((8 : Int32) &&& 31).toUInt32).toInt32).toInt8.toInt32)), .val (.int (((p1.toUInt32 >>> ((16 : Int32) &&& 31).toUInt32).toInt32).toInt8.toInt32)), .val (.int (((p1.toUInt32 >>> ((24 : Int32) &&& 31).toUInt32).toInt32).toInt8.toInt32))] [(.ref b25), (.ref b25)]))
    refine own_via (fun t k => XS.iconst X25.here hx rfl (hb hby d3_87) k) ?_
    show OwnEnds p.tables e below _ (T25.setTop (mkF m 88 #[.val (.int (4 : Int32)), .val (.int p1), .val (.int (p1.toInt8.toInt32)), .val (.int (((p1.toUInt32 >>> ((8 : Int32) &&& 31).toUInt32).toInt32).toInt8.toInt32)), .val (.int (((p1.toUInt32 >>> ((16 : Int32) &&& 31).toUInt32).toInt32).toInt8.toInt32)), .val (.int (((p1.toUInt32 >>> ((24 : Int32) &&& 31).toUInt32).toInt32).toInt8.toInt32))] [(.int (0 : Int32)), (.ref b25), (.ref b25)]))
    refine own_via (fun t k => XS.iloadN X25.here hx rfl (hb hby d3_88) rfl k) ?_
    show OwnEnds p.tables e below _ (T25.setTop (mkF m 89 #[.val (.int (4 : Int32)), .val (.int p1), .val (.int (p1.toInt8.toInt32)), .val (.int (((p1.toUInt32 >>> ((8 : Int32) &&& 31).toUInt32).toInt32).toInt8.toInt32)), .val (.int (((p1.toUInt32 >>> ((16 : Int32) &&& 31).toUInt32).toInt32).toInt8.toInt32)), .val (.int (((p1.toUInt32 >>> ((24 : Int32) &&& 31).toUInt32).toInt32).toInt8.toInt32))] [(.int (p1.toInt8.toInt32)), (.int (0 : Int32)), (.ref b25), (.ref b25)]))
    obtain ⟨T26, h26, X26, e26, W26, AA26, st26⟩ := own_stB X25 hx hZ e25 A_b25 0 rfl (Nat.le_of_ble_eq_true rfl) (g := (mkF m 89 #[.val (.int (4 : Int32)), .val (.int p1), .val (.int (p1.toInt8.toInt32)), .val (.int (((p1.toUInt32 >>> ((8 : Int32) &&& 31).toUInt32).toInt32).toInt8.toInt32)), .val (.int (((p1.toUInt32 >>> ((16 : Int32) &&& 31).toUInt32).toInt32).toInt8.toInt32)), .val (.int (((p1.toUInt32 >>> ((24 : Int32) &&& 31).toUInt32).toInt32).toInt8.toInt32))] [(.int (p1.toInt8.toInt32)), (.int (0 : Int32)), (.ref b25), (.ref b25)])) rfl rfl (hb hby d3_89)
    replace K0 := K0.wr W26 (Or.inr sz_b25)
    have Zs_W26 : n0 ≤ _ := Nat.le_trans Zs_25 (Keep.of_wr W26).1
    replace A_b25 : AL Z h26 b25 .byte [(.int (nar .byte (p1.toInt8.toInt32))), (.int (0 : Int32)), (.int (0 : Int32)), (.int (0 : Int32))] := AA26
    have N26 := Fr.snoc X26 N0 g_b25
    refine own_via st26 ?_
    show OwnEnds p.tables e below _ (T26.setTop (mkF m 90 #[.val (.int (4 : Int32)), .val (.int p1), .val (.int (p1.toInt8.toInt32)), .val (.int (((p1.toUInt32 >>> ((8 : Int32) &&& 31).toUInt32).toInt32).toInt8.toInt32)), .val (.int (((p1.toUInt32 >>> ((16 : Int32) &&& 31).toUInt32).toInt32).toInt8.toInt32)), .val (.int (((p1.toUInt32 >>> ((24 : Int32) &&& 31).toUInt32).toInt32).toInt8.toInt32))] [(.ref b25)]))
    refine own_via (fun t k => XS.dup X26.here hx rfl (hb hby d3_90) rfl rfl k) ?_
    show OwnEnds p.tables e below _ (T26.setTop (mkF m 91 #[.val (.int (4 : Int32)), .val (.int p1), .val (.int (p1.toInt8.toInt32)), .val (.int (((p1.toUInt32 >>> ((8 : Int32) &&& 31).toUInt32).toInt32).toInt8.toInt32)), .val (.int (((p1.toUInt32 >>> ((16 : Int32) &&& 31).toUInt32).toInt32).toInt8.toInt32)), .val (.int (((p1.toUInt32 >>> ((24 : Int32) &&& 31).toUInt32).toInt32).toInt8.toInt32))] [(.ref b25), (.ref b25)]))
    refine own_via (fun t k => XS.iconst X26.here hx rfl (hb hby d3_91) k) ?_
    show OwnEnds p.tables e below _ (T26.setTop (mkF m 92 #[.val (.int (4 : Int32)), .val (.int p1), .val (.int (p1.toInt8.toInt32)), .val (.int (((p1.toUInt32 >>> ((8 : Int32) &&& 31).toUInt32).toInt32).toInt8.toInt32)), .val (.int (((p1.toUInt32 >>> ((16 : Int32) &&& 31).toUInt32).toInt32).toInt8.toInt32)), .val (.int (((p1.toUInt32 >>> ((24 : Int32) &&& 31).toUInt32).toInt32).toInt8.toInt32))] [(.int (1 : Int32)), (.ref b25), (.ref b25)]))
    refine own_via (fun t k => XS.iloadN X26.here hx rfl (hb hby d3_92) rfl k) ?_
    show OwnEnds p.tables e below _ (T26.setTop (mkF m 93 #[.val (.int (4 : Int32)), .val (.int p1), .val (.int (p1.toInt8.toInt32)), .val (.int (((p1.toUInt32 >>> ((8 : Int32) &&& 31).toUInt32).toInt32).toInt8.toInt32)), .val (.int (((p1.toUInt32 >>> ((16 : Int32) &&& 31).toUInt32).toInt32).toInt8.toInt32)), .val (.int (((p1.toUInt32 >>> ((24 : Int32) &&& 31).toUInt32).toInt32).toInt8.toInt32))] [(.int (((p1.toUInt32 >>> ((8 : Int32) &&& 31).toUInt32).toInt32).toInt8.toInt32)), (.int (1 : Int32)), (.ref b25), (.ref b25)]))
    obtain ⟨T27, h27, X27, e27, W27, AA27, st27⟩ := own_stB X26 hx hZ e26 A_b25 1 rfl (Nat.le_of_ble_eq_true rfl) (g := (mkF m 93 #[.val (.int (4 : Int32)), .val (.int p1), .val (.int (p1.toInt8.toInt32)), .val (.int (((p1.toUInt32 >>> ((8 : Int32) &&& 31).toUInt32).toInt32).toInt8.toInt32)), .val (.int (((p1.toUInt32 >>> ((16 : Int32) &&& 31).toUInt32).toInt32).toInt8.toInt32)), .val (.int (((p1.toUInt32 >>> ((24 : Int32) &&& 31).toUInt32).toInt32).toInt8.toInt32))] [(.int (((p1.toUInt32 >>> ((8 : Int32) &&& 31).toUInt32).toInt32).toInt8.toInt32)), (.int (1 : Int32)), (.ref b25), (.ref b25)])) rfl rfl (hb hby d3_93)
    replace K0 := K0.wr W27 (Or.inr sz_b25)
    have Zs_W27 : n0 ≤ _ := Nat.le_trans Zs_W26 (Keep.of_wr W27).1
    replace A_b25 : AL Z h27 b25 .byte [(.int (nar .byte (p1.toInt8.toInt32))), (.int (nar .byte (((p1.toUInt32 >>> ((8 : Int32) &&& 31).toUInt32).toInt32).toInt8.toInt32))), (.int (0 : Int32)), (.int (0 : Int32))] := AA27
    have N27 := Fr.snoc X27 N26 g_b25
    refine own_via st27 ?_
    show OwnEnds p.tables e below _ (T27.setTop (mkF m 94 #[.val (.int (4 : Int32)), .val (.int p1), .val (.int (p1.toInt8.toInt32)), .val (.int (((p1.toUInt32 >>> ((8 : Int32) &&& 31).toUInt32).toInt32).toInt8.toInt32)), .val (.int (((p1.toUInt32 >>> ((16 : Int32) &&& 31).toUInt32).toInt32).toInt8.toInt32)), .val (.int (((p1.toUInt32 >>> ((24 : Int32) &&& 31).toUInt32).toInt32).toInt8.toInt32))] [(.ref b25)]))
    refine own_via (fun t k => XS.dup X27.here hx rfl (hb hby d3_94) rfl rfl k) ?_
    show OwnEnds p.tables e below _ (T27.setTop (mkF m 95 #[.val (.int (4 : Int32)), .val (.int p1), .val (.int (p1.toInt8.toInt32)), .val (.int (((p1.toUInt32 >>> ((8 : Int32) &&& 31).toUInt32).toInt32).toInt8.toInt32)), .val (.int (((p1.toUInt32 >>> ((16 : Int32) &&& 31).toUInt32).toInt32).toInt8.toInt32)), .val (.int (((p1.toUInt32 >>> ((24 : Int32) &&& 31).toUInt32).toInt32).toInt8.toInt32))] [(.ref b25), (.ref b25)]))
    refine own_via (fun t k => XS.iconst X27.here hx rfl (hb hby d3_95) k) ?_
    show OwnEnds p.tables e below _ (T27.setTop (mkF m 96 #[.val (.int (4 : Int32)), .val (.int p1), .val (.int (p1.toInt8.toInt32)), .val (.int (((p1.toUInt32 >>> ((8 : Int32) &&& 31).toUInt32).toInt32).toInt8.toInt32)), .val (.int (((p1.toUInt32 >>> ((16 : Int32) &&& 31).toUInt32).toInt32).toInt8.toInt32)), .val (.int (((p1.toUInt32 >>> ((24 : Int32) &&& 31).toUInt32).toInt32).toInt8.toInt32))] [(.int (2 : Int32)), (.ref b25), (.ref b25)]))
    refine own_via (fun t k => XS.iload X27.here hx rfl (hb hby d3_96) rfl k) ?_
    show OwnEnds p.tables e below _ (T27.setTop (mkF m 98 #[.val (.int (4 : Int32)), .val (.int p1), .val (.int (p1.toInt8.toInt32)), .val (.int (((p1.toUInt32 >>> ((8 : Int32) &&& 31).toUInt32).toInt32).toInt8.toInt32)), .val (.int (((p1.toUInt32 >>> ((16 : Int32) &&& 31).toUInt32).toInt32).toInt8.toInt32)), .val (.int (((p1.toUInt32 >>> ((24 : Int32) &&& 31).toUInt32).toInt32).toInt8.toInt32))] [(.int (((p1.toUInt32 >>> ((16 : Int32) &&& 31).toUInt32).toInt32).toInt8.toInt32)), (.int (2 : Int32)), (.ref b25), (.ref b25)]))
    obtain ⟨T28, h28, X28, e28, W28, AA28, st28⟩ := own_stB X27 hx hZ e27 A_b25 2 rfl (Nat.le_of_ble_eq_true rfl) (g := (mkF m 98 #[.val (.int (4 : Int32)), .val (.int p1), .val (.int (p1.toInt8.toInt32)), .val (.int (((p1.toUInt32 >>> ((8 : Int32) &&& 31).toUInt32).toInt32).toInt8.toInt32)), .val (.int (((p1.toUInt32 >>> ((16 : Int32) &&& 31).toUInt32).toInt32).toInt8.toInt32)), .val (.int (((p1.toUInt32 >>> ((24 : Int32) &&& 31).toUInt32).toInt32).toInt8.toInt32))] [(.int (((p1.toUInt32 >>> ((16 : Int32) &&& 31).toUInt32).toInt32).toInt8.toInt32)), (.int (2 : Int32)), (.ref b25), (.ref b25)])) rfl rfl (hb hby d3_98)
    replace K0 := K0.wr W28 (Or.inr sz_b25)
    have Zs_W28 : n0 ≤ _ := Nat.le_trans Zs_W27 (Keep.of_wr W28).1
    replace A_b25 : AL Z h28 b25 .byte [(.int (nar .byte (p1.toInt8.toInt32))), (.int (nar .byte (((p1.toUInt32 >>> ((8 : Int32) &&& 31).toUInt32).toInt32).toInt8.toInt32))), (.int (nar .byte (((p1.toUInt32 >>> ((16 : Int32) &&& 31).toUInt32).toInt32).toInt8.toInt32))), (.int (0 : Int32))] := AA28
    have N28 := Fr.snoc X28 N27 g_b25
    refine own_via st28 ?_
    show OwnEnds p.tables e below _ (T28.setTop (mkF m 99 #[.val (.int (4 : Int32)), .val (.int p1), .val (.int (p1.toInt8.toInt32)), .val (.int (((p1.toUInt32 >>> ((8 : Int32) &&& 31).toUInt32).toInt32).toInt8.toInt32)), .val (.int (((p1.toUInt32 >>> ((16 : Int32) &&& 31).toUInt32).toInt32).toInt8.toInt32)), .val (.int (((p1.toUInt32 >>> ((24 : Int32) &&& 31).toUInt32).toInt32).toInt8.toInt32))] [(.ref b25)]))
    refine own_via (fun t k => XS.dup X28.here hx rfl (hb hby d3_99) rfl rfl k) ?_
    show OwnEnds p.tables e below _ (T28.setTop (mkF m 100 #[.val (.int (4 : Int32)), .val (.int p1), .val (.int (p1.toInt8.toInt32)), .val (.int (((p1.toUInt32 >>> ((8 : Int32) &&& 31).toUInt32).toInt32).toInt8.toInt32)), .val (.int (((p1.toUInt32 >>> ((16 : Int32) &&& 31).toUInt32).toInt32).toInt8.toInt32)), .val (.int (((p1.toUInt32 >>> ((24 : Int32) &&& 31).toUInt32).toInt32).toInt8.toInt32))] [(.ref b25), (.ref b25)]))
    refine own_via (fun t k => XS.iconst X28.here hx rfl (hb hby d3_100) k) ?_
    show OwnEnds p.tables e below _ (T28.setTop (mkF m 101 #[.val (.int (4 : Int32)), .val (.int p1), .val (.int (p1.toInt8.toInt32)), .val (.int (((p1.toUInt32 >>> ((8 : Int32) &&& 31).toUInt32).toInt32).toInt8.toInt32)), .val (.int (((p1.toUInt32 >>> ((16 : Int32) &&& 31).toUInt32).toInt32).toInt8.toInt32)), .val (.int (((p1.toUInt32 >>> ((24 : Int32) &&& 31).toUInt32).toInt32).toInt8.toInt32))] [(.int (3 : Int32)), (.ref b25), (.ref b25)]))
    refine own_via (fun t k => XS.iload X28.here hx rfl (hb hby d3_101) rfl k) ?_
    show OwnEnds p.tables e below _ (T28.setTop (mkF m 103 #[.val (.int (4 : Int32)), .val (.int p1), .val (.int (p1.toInt8.toInt32)), .val (.int (((p1.toUInt32 >>> ((8 : Int32) &&& 31).toUInt32).toInt32).toInt8.toInt32)), .val (.int (((p1.toUInt32 >>> ((16 : Int32) &&& 31).toUInt32).toInt32).toInt8.toInt32)), .val (.int (((p1.toUInt32 >>> ((24 : Int32) &&& 31).toUInt32).toInt32).toInt8.toInt32))] [(.int (((p1.toUInt32 >>> ((24 : Int32) &&& 31).toUInt32).toInt32).toInt8.toInt32)), (.int (3 : Int32)), (.ref b25), (.ref b25)]))
    obtain ⟨T29, h29, X29, e29, W29, AA29, st29⟩ := own_stB X28 hx hZ e28 A_b25 3 rfl (Nat.le_of_ble_eq_true rfl) (g := (mkF m 103 #[.val (.int (4 : Int32)), .val (.int p1), .val (.int (p1.toInt8.toInt32)), .val (.int (((p1.toUInt32 >>> ((8 : Int32) &&& 31).toUInt32).toInt32).toInt8.toInt32)), .val (.int (((p1.toUInt32 >>> ((16 : Int32) &&& 31).toUInt32).toInt32).toInt8.toInt32)), .val (.int (((p1.toUInt32 >>> ((24 : Int32) &&& 31).toUInt32).toInt32).toInt8.toInt32))] [(.int (((p1.toUInt32 >>> ((24 : Int32) &&& 31).toUInt32).toInt32).toInt8.toInt32)), (.int (3 : Int32)), (.ref b25), (.ref b25)])) rfl rfl (hb hby d3_103)
    replace K0 := K0.wr W29 (Or.inr sz_b25)
    have Zs_W29 : n0 ≤ _ := Nat.le_trans Zs_W28 (Keep.of_wr W29).1
    replace A_b25 : AL Z h29 b25 .byte [(.int (nar .byte (p1.toInt8.toInt32))), (.int (nar .byte (((p1.toUInt32 >>> ((8 : Int32) &&& 31).toUInt32).toInt32).toInt8.toInt32))), (.int (nar .byte (((p1.toUInt32 >>> ((16 : Int32) &&& 31).toUInt32).toInt32).toInt8.toInt32))), (.int (nar .byte (((p1.toUInt32 >>> ((24 : Int32) &&& 31).toUInt32).toInt32).toInt8.toInt32)))] := AA29
    have N29 := Fr.snoc X29 N28 g_b25
    refine own_via st29 ?_
    show OwnEnds p.tables e below _ (T29.setTop (mkF m 104 #[.val (.int (4 : Int32)), .val (.int p1), .val (.int (p1.toInt8.toInt32)), .val (.int (((p1.toUInt32 >>> ((8 : Int32) &&& 31).toUInt32).toInt32).toInt8.toInt32)), .val (.int (((p1.toUInt32 >>> ((16 : Int32) &&& 31).toUInt32).toInt32).toInt8.toInt32)), .val (.int (((p1.toUInt32 >>> ((24 : Int32) &&& 31).toUInt32).toInt32).toInt8.toInt32))] [(.ref b25)]))
    refine own_retA X29 hx Bd.returns rfl rfl hlk (hb hby d3_104) ?_ (by decide) (by decide)
    rw [e29]
    exact ⟨b25, rfl, N29, K0, sz_b25, A_b25⟩
theorem d4_0 : decode prog_1_method_1_code 0 = .ok (.aload_n 0, 1) := by decide +kernel
theorem d4_1 : decode prog_1_method_1_code 1 = .ok (.invokespecial 1, 3) := by decide +kernel
theorem d4_4 : decode prog_1_method_1_code 4 = .ok (.aload_n 0, 1) := by decide +kernel
theorem d4_5 : decode prog_1_method_1_code 5 = .ok (.lload_n 1, 1) := by decide +kernel
theorem d4_6 : decode prog_1_method_1_code 6 = .ok (.putfield 7, 3) := by decide +kernel
theorem d4_9 : decode prog_1_method_1_code 9 = .ok (.aload_n 0, 1) := by decide +kernel
theorem d4_10 : decode prog_1_method_1_code 10 = .ok (.aload_n 3, 1) := by decide +kernel
theorem d4_11 : decode prog_1_method_1_code 11 = .ok (.putfield 13, 3) := by decide +kernel
theorem d4_14 : decode prog_1_method_1_code 14 = .ok (.return_, 1) := by decide +kernel
theorem pn_1 : plainName "com/example/crowd_cache/crowdcache/core/Bucket" = true := by first | (simp [plainName, overriddenIn]; done) | decide +kernel
theorem ef_4 (m : MethodId) (a0 : Addr) (q1 : Int64) (a2 : Addr) : entryFrame m #[(.ref a0), (.long q1), (.ref a2)] 4 = mkF m 0 #[.val (.ref a0), .val (.long q1), .second, .val (.ref a2)] [] := by first | (simp [entryFrame, mkF, argsToLocals, Value.category]; done) | rfl
def Q4 (Z : State) (a0 : Addr) (q1 : Int64) (a2 : Addr) (h0 : Heap) (n0 : Nat) (v : Option Value) (h : Heap) (L : List Loc) : Prop := v = none ∧ Fr n0 L ∧ Keep h0 h [a0] ∧ Exa Z h a0 "com/example/crowd_cache/crowdcache/core/Bucket" ∧ Fld Z h a0 "com/example/crowd_cache/crowdcache/core/Bucket" "index" "J" (.long q1) ∧ Fld Z h a0 "com/example/crowd_cache/crowdcache/core/Bucket" "positions" "[I" (.ref a2)
set_option maxRecDepth 65536 in
set_option maxHeartbeats 40000000 in
theorem rm4 (l : Launch) (Z : State) (aw : Array Value) (hw : ∀ d ∈ tables_1, d.before aw Z = true) (ws : List Jvm.Cond) (a0 : Addr) (q1 : Int64) (a2 : Addr) (h0 : Heap) (n0 : Nat) (Z0 : n0 ≤ h0.size) (E_a0 : Exa Z h0 a0 "com/example/crowd_cache/crowdcache/core/Bucket") (F_index_a0 : Fld Z h0 a0 "com/example/crowd_cache/crowdcache/core/Bucket" "index" "J" (.long (0 : Int64))) (F_positions_a0 : Fld Z h0 a0 "com/example/crowd_cache/crowdcache/core/Bucket" "positions" "[I" .null) (g_a0 : n0 ≤ a0) :
    MetFree l (⟨"com/example/crowd_cache/crowdcache/core/Bucket", "<init>", "(J[I)V"⟩ : MethodName) (head1 (Jvm.Cond.code (⟨"com/example/crowd_cache/crowdcache/core/Bucket", "<init>", "(J[I)V"⟩ : MethodName) prog_1_method_1_code 4 none :: ws) ({ frames := 1, cells := 0, slots := 0, locals := 12 } : Room)) (fun a U => a = #[(.ref a0), (.long q1), (.ref a2)] ∧ Z.Warmed39 U.vm ∧ U.heap = h0) (fun _ _ _ _ _ => True) (fun _ U o U' => ∃ v L, o = .returned v ∧ Q4 Z a0 q1 a2 h0 n0 v U'.heap L ∧ FrameEnd U o U' L ({ frames := 1, cells := 0, slots := 0, locals := 12 } : Room).cells ({ frames := 1, cells := 0, slots := 0, locals := 12 } : Room).slots) := by
  refine MetFree.of_bodySF (plainFor_of_name pn_1) hisR ?_
  intro p e s m args below meth c s₁ Bd hml0 hP hK
  obtain ⟨rfl, hZ, hh⟩ := hP
  have hx := Bd.exec
  have hby := Bd.bytes
  have hml : c.maxLocals = 4 := hml0
  have hown : s.vm.findClass "com/example/crowd_cache/crowdcache/core/Bucket" = some m.cls := findClass_of_methodNamed Bd.named
  have hnm := (name_of_methodNamed Bd.named Bd.method).1
  have hlk : meth.locks = false := Bd.notSynchronized
  have X0 : Stand p l e ({ frames := 1, cells := 0, slots := 0, locals := 12 } : Room) s m #[(.ref a0), (.long q1), (.ref a2)] below meth c s₁ [] 0 0 := Stand.of_body Bd
  have e0 : s₁.heap = h0 := by rw [← hh, Bd.state]; rfl
  have N0 := Fr.nil n0
  show OwnEnds p.tables e below (OwnQ s ({ frames := 1, cells := 0, slots := 0, locals := 12 } : Room).cells ({ frames := 1, cells := 0, slots := 0, locals := 12 } : Room).slots (Q4 Z a0 q1 a2 h0 n0)) (s₁.setTop (entryFrame m #[(.ref a0), (.long q1), (.ref a2)] 4))
  refine own_via (fun t k => castTop (ef_4 m a0 q1 a2) k) ?_
  show OwnEnds p.tables e below _ (s₁.setTop (mkF m 0 #[.val (.ref a0), .val (.long q1), .second, .val (.ref a2)] []))
  have K0 : Keep h0 h0 [a0] := Keep.refl _ _
  refine own_via (fun t k => XS.aloadN X0.here hx rfl (hb hby d4_0) rfl rfl k) ?_
  show OwnEnds p.tables e below _ (s₁.setTop (mkF m 1 #[.val (.ref a0), .val (.long q1), .second, .val (.ref a2)] [(.ref a0)]))
  obtain ⟨T1, X1, e1, st1⟩ := initO X0 hx hZ hown (hw _ (List.mem_of_getElem? (i := 21) rfl)) (hw _ (List.mem_of_getElem? (i := 22) rfl)) (hw _ (List.mem_of_getElem? (i := 23) rfl)) e0 (g := (mkF m 1 #[.val (.ref a0), .val (.long q1), .second, .val (.ref a2)] [(.ref a0)])) rfl (by rw [hml]; rfl) rfl (hb hby d4_1) (by decide) (W := 0) (by show 2 * 0 + _ ≤ _; exact Nat.le_of_eq rfl) (by decide)
  refine own_via st1 ?_
  show OwnEnds p.tables e below _ (T1.setTop (mkF m 4 #[.val (.ref a0), .val (.long q1), .second, .val (.ref a2)] []))
  refine own_via (fun t k => XS.aloadN X1.here hx rfl (hb hby d4_4) rfl rfl k) ?_
  show OwnEnds p.tables e below _ (T1.setTop (mkF m 5 #[.val (.ref a0), .val (.long q1), .second, .val (.ref a2)] [(.ref a0)]))
  refine own_via (fun t k => XS.lloadN X1.here hx rfl (hb hby d4_5) rfl k) ?_
  show OwnEnds p.tables e below _ (T1.setTop (mkF m 6 #[.val (.ref a0), .val (.long q1), .second, .val (.ref a2)] [(.long q1), (.ref a0)]))
  obtain ⟨T2, h2, X2, e2, W2, st2⟩ := putF X1 hx hZ hown (host := "") (Or.inl (hw _ (List.mem_of_getElem? (i := 24) rfl))) Via.refl e1 F_index_a0 E_a0 (Or.inr ⟨(hw _ (List.mem_of_getElem? (i := 25) rfl)), rfl, hnm⟩) (hw _ (List.mem_of_getElem? (i := 16) rfl)) (ty := .long) (by decide) rfl rfl (g := (mkF m 6 #[.val (.ref a0), .val (.long q1), .second, .val (.ref a2)] [(.long q1), (.ref a0)])) rfl rfl (hb hby d4_6)
  replace E_a0 := E_a0.wr W2
  replace F_index_a0 := F_index_a0.same W2
  replace F_positions_a0 := F_positions_a0.other W2 (Or.inr (slot_ne (Or.inr (hw _ (List.mem_of_getElem? (i := 27) rfl))) (Or.inr (hw _ (List.mem_of_getElem? (i := 25) rfl))) (by decide) (t := (.array .int)) (t' := .long) (by decide) (by decide)))
  replace K0 := K0.wr W2 (Or.inl (List.mem_of_getElem? (i := 0) rfl))
  have Zs_W2 : n0 ≤ _ := Nat.le_trans Z0 (Keep.of_wr W2).1
  have N2 := Fr.snoc X2 N0 g_a0
  refine own_via st2 ?_
  show OwnEnds p.tables e below _ (T2.setTop (mkF m 9 #[.val (.ref a0), .val (.long q1), .second, .val (.ref a2)] []))
  refine own_via (fun t k => XS.aloadN X2.here hx rfl (hb hby d4_9) rfl rfl k) ?_
  show OwnEnds p.tables e below _ (T2.setTop (mkF m 10 #[.val (.ref a0), .val (.long q1), .second, .val (.ref a2)] [(.ref a0)]))
  refine own_via (fun t k => XS.aloadN X2.here hx rfl (hb hby d4_10) rfl rfl k) ?_
  show OwnEnds p.tables e below _ (T2.setTop (mkF m 11 #[.val (.ref a0), .val (.long q1), .second, .val (.ref a2)] [(.ref a2), (.ref a0)]))
  obtain ⟨T3, h3, X3, e3, W3, st3⟩ := putF X2 hx hZ hown (host := "") (Or.inl (hw _ (List.mem_of_getElem? (i := 26) rfl))) Via.refl e2 F_positions_a0 E_a0 (Or.inr ⟨(hw _ (List.mem_of_getElem? (i := 27) rfl)), rfl, hnm⟩) (hw _ (List.mem_of_getElem? (i := 16) rfl)) (ty := (.array .int)) (by decide) rfl rfl (g := (mkF m 11 #[.val (.ref a0), .val (.long q1), .second, .val (.ref a2)] [(.ref a2), (.ref a0)])) rfl rfl (hb hby d4_11)
  replace E_a0 := E_a0.wr W3
  replace F_index_a0 := F_index_a0.other W3 (Or.inr (slot_ne (Or.inr (hw _ (List.mem_of_getElem? (i := 25) rfl))) (Or.inr (hw _ (List.mem_of_getElem? (i := 27) rfl))) (by decide) (t := .long) (t' := (.array .int)) (by decide) (by decide)))
  replace F_positions_a0 := F_positions_a0.same W3
  replace K0 := K0.wr W3 (Or.inl (List.mem_of_getElem? (i := 0) rfl))
  have Zs_W3 : n0 ≤ _ := Nat.le_trans Zs_W2 (Keep.of_wr W3).1
  have N3 := Fr.snoc X3 N2 g_a0
  refine own_via st3 ?_
  show OwnEnds p.tables e below _ (T3.setTop (mkF m 14 #[.val (.ref a0), .val (.long q1), .second, .val (.ref a2)] []))
  refine own_retV X3 hx Bd.returns hlk (hb hby d4_14) ?_ (by decide) (by decide)
  rw [e3]
  exact ⟨rfl, N3, K0, E_a0, F_index_a0, F_positions_a0⟩
theorem d6_0 : decode prog_1_method_6_code 0 = .ok (.aload_n 0, 1) := by decide +kernel
theorem d6_1 : decode prog_1_method_6_code 1 = .ok (.getfield 13, 3) := by decide +kernel
theorem d6_4 : decode prog_1_method_6_code 4 = .ok (.arraylength, 1) := by decide +kernel
theorem d6_5 : decode prog_1_method_6_code 5 = .ok (.newarray .boolean, 2) := by decide +kernel
theorem d6_7 : decode prog_1_method_6_code 7 = .ok (.astore_n 2, 1) := by decide +kernel
theorem d6_8 : decode prog_1_method_6_code 8 = .ok (.iconst 0, 1) := by decide +kernel
theorem d6_9 : decode prog_1_method_6_code 9 = .ok (.istore_n 3, 1) := by decide +kernel
theorem d6_10 : decode prog_1_method_6_code 10 = .ok (.iload_n 3, 1) := by decide +kernel
theorem d6_11 : decode prog_1_method_6_code 11 = .ok (.aload_n 0, 1) := by decide +kernel
theorem d6_12 : decode prog_1_method_6_code 12 = .ok (.getfield 13, 3) := by decide +kernel
theorem d6_15 : decode prog_1_method_6_code 15 = .ok (.arraylength, 1) := by decide +kernel
theorem d6_16 : decode prog_1_method_6_code 16 = .ok (.if_icmp .ge 56, 3) := by decide +kernel
theorem d6_19 : decode prog_1_method_6_code 19 = .ok (.aload_n 0, 1) := by decide +kernel
theorem d6_20 : decode prog_1_method_6_code 20 = .ok (.getfield 13, 3) := by decide +kernel
theorem d6_23 : decode prog_1_method_6_code 23 = .ok (.iload_n 3, 1) := by decide +kernel
theorem d6_24 : decode prog_1_method_6_code 24 = .ok (.iaload, 1) := by decide +kernel
theorem d6_25 : decode prog_1_method_6_code 25 = .ok (.bipush 8, 2) := by decide +kernel
theorem d6_27 : decode prog_1_method_6_code 27 = .ok (.idiv, 1) := by decide +kernel
theorem d6_28 : decode prog_1_method_6_code 28 = .ok (.istore 4, 2) := by decide +kernel
theorem d6_30 : decode prog_1_method_6_code 30 = .ok (.aload_n 2, 1) := by decide +kernel
theorem d6_31 : decode prog_1_method_6_code 31 = .ok (.iload_n 3, 1) := by decide +kernel
theorem d6_32 : decode prog_1_method_6_code 32 = .ok (.iload 4, 2) := by decide +kernel
theorem d6_34 : decode prog_1_method_6_code 34 = .ok (.aload_n 1, 1) := by decide +kernel
theorem d6_35 : decode prog_1_method_6_code 35 = .ok (.arraylength, 1) := by decide +kernel
theorem d6_36 : decode prog_1_method_6_code 36 = .ok (.if_icmp .ge 28, 3) := by decide +kernel
theorem d6_39 : decode prog_1_method_6_code 39 = .ok (.aload_n 1, 1) := by decide +kernel
theorem d6_40 : decode prog_1_method_6_code 40 = .ok (.iload 4, 2) := by decide +kernel
theorem d6_42 : decode prog_1_method_6_code 42 = .ok (.baload, 1) := by decide +kernel
theorem d6_43 : decode prog_1_method_6_code 43 = .ok (.sipush 128, 3) := by decide +kernel
theorem d6_46 : decode prog_1_method_6_code 46 = .ok (.aload_n 0, 1) := by decide +kernel
theorem d6_47 : decode prog_1_method_6_code 47 = .ok (.getfield 13, 3) := by decide +kernel
theorem d6_50 : decode prog_1_method_6_code 50 = .ok (.iload_n 3, 1) := by decide +kernel
theorem d6_51 : decode prog_1_method_6_code 51 = .ok (.iaload, 1) := by decide +kernel
theorem d6_52 : decode prog_1_method_6_code 52 = .ok (.bipush 8, 2) := by decide +kernel
theorem d6_54 : decode prog_1_method_6_code 54 = .ok (.irem, 1) := by decide +kernel
theorem d6_55 : decode prog_1_method_6_code 55 = .ok (.iushr, 1) := by decide +kernel
theorem d6_56 : decode prog_1_method_6_code 56 = .ok (.iand, 1) := by decide +kernel
theorem d6_57 : decode prog_1_method_6_code 57 = .ok (.ifCond .eq 7, 3) := by decide +kernel
theorem d6_60 : decode prog_1_method_6_code 60 = .ok (.iconst 1, 1) := by decide +kernel
theorem d6_61 : decode prog_1_method_6_code 61 = .ok (.goto 4, 3) := by decide +kernel
theorem d6_64 : decode prog_1_method_6_code 64 = .ok (.iconst 0, 1) := by decide +kernel
theorem d6_65 : decode prog_1_method_6_code 65 = .ok (.bastore, 1) := by decide +kernel
theorem d6_66 : decode prog_1_method_6_code 66 = .ok (.iinc 3 1, 3) := by decide +kernel
theorem d6_69 : decode prog_1_method_6_code 69 = .ok (.goto (-59), 3) := by decide +kernel
theorem d6_72 : decode prog_1_method_6_code 72 = .ok (.aload_n 2, 1) := by decide +kernel
theorem d6_73 : decode prog_1_method_6_code 73 = .ok (.areturn, 1) := by decide +kernel
theorem ef_61 (m : MethodId) (a0 : Addr) (a1 : Addr) : entryFrame m #[(.ref a0), (.ref a1)] 5 = mkF m 0 #[.val (.ref a0), .val (.ref a1), .unset, .unset, .unset] [] := by first | (simp [entryFrame, mkF, argsToLocals, Value.category]; done) | rfl
def Q61 (Z : State) (a0 : Addr) (a1 : Addr) (pos : Addr) (bits : Int32) (n : Nat) (nn : Int32) (u0 : Int32) (h0 : Heap) (n0 : Nat) (v : Option Value) (h : Heap) (L : List Loc) : Prop := ∃ b : Addr, v = some (.ref b) ∧ Fr n0 L ∧ Keep h0 h [] ∧ h0.size ≤ b ∧ AL Z h b .boolean [.int (nar .boolean (own_f u0 nn bits))]
set_option maxRecDepth 65536 in
set_option maxHeartbeats 40000000 in
theorem rm61 (l : Launch) (Z : State) (aw : Array Value) (hw : ∀ d ∈ tables_1, d.before aw Z = true) (ws : List Jvm.Cond) (a0 : Addr) (a1 : Addr) (pos : Addr) (bits : Int32) (n : Nat) (nn : Int32) (u0 : Int32) (h0 : Heap) (n0 : Nat) (Z0 : n0 ≤ h0.size) (E_a0 : Exa Z h0 a0 "com/example/crowd_cache/crowdcache/core/Bucket") (F_pos : Fld Z h0 a0 "com/example/crowd_cache/crowdcache/core/Bucket" "positions" "[I" (.ref pos)) (A_pos : AL Z h0 pos .int [(.int u0)]) (A_a1 : AL Z h0 a1 .byte (own_bl bits n)) (hn : nn.toInt = n) (hu0 : 0 ≤ u0.toInt ∧ u0.toInt ≤ 65535) :
    MetFree l (⟨"com/example/crowd_cache/crowdcache/core/Bucket", "foundIn", "([B)[Z"⟩ : MethodName) (head1 (Jvm.Cond.code (⟨"com/example/crowd_cache/crowdcache/core/Bucket", "foundIn", "([B)[Z"⟩ : MethodName) prog_1_method_6_code 5 (some (.array .boolean)) :: ws) ({ frames := 0, cells := 1, slots := 2, locals := 0 } : Room)) (fun a U => a = #[(.ref a0), (.ref a1)] ∧ Z.Warmed39 U.vm ∧ U.heap = h0) (fun _ _ _ _ _ => True) (fun _ U o U' => ∃ v L, o = .returned v ∧ Q61 Z a0 a1 pos bits n nn u0 h0 n0 v U'.heap L ∧ FrameEnd U o U' L ({ frames := 0, cells := 1, slots := 2, locals := 0 } : Room).cells ({ frames := 0, cells := 1, slots := 2, locals := 0 } : Room).slots) := by
  refine MetFree.of_bodySF (plainFor_of_name pn_1) hisR ?_
  intro p e s m args below meth c s₁ Bd hml0 hP hK
  obtain ⟨rfl, hZ, hh⟩ := hP
  have hx := Bd.exec
  have hby := Bd.bytes
  have hml : c.maxLocals = 5 := hml0
  have hown : s.vm.findClass "com/example/crowd_cache/crowdcache/core/Bucket" = some m.cls := findClass_of_methodNamed Bd.named
  have hnm := (name_of_methodNamed Bd.named Bd.method).1
  have hlk : meth.locks = false := Bd.notSynchronized
  have X0 : Stand p l e ({ frames := 0, cells := 1, slots := 2, locals := 0 } : Room) s m #[(.ref a0), (.ref a1)] below meth c s₁ [] 0 0 := Stand.of_body Bd
  have e0 : s₁.heap = h0 := by rw [← hh, Bd.state]; rfl
  have N0 := Fr.nil n0
  show OwnEnds p.tables e below (OwnQ s ({ frames := 0, cells := 1, slots := 2, locals := 0 } : Room).cells ({ frames := 0, cells := 1, slots := 2, locals := 0 } : Room).slots (Q61 Z a0 a1 pos bits n nn u0 h0 n0)) (s₁.setTop (entryFrame m #[(.ref a0), (.ref a1)] 5))
  refine own_via (fun t k => castTop (ef_61 m a0 a1) k) ?_
  show OwnEnds p.tables e below _ (s₁.setTop (mkF m 0 #[.val (.ref a0), .val (.ref a1), .unset, .unset, .unset] []))
  have K0 : Keep h0 h0 [] := Keep.refl _ _
  refine own_via (fun t k => XS.aloadN X0.here hx rfl (hb hby d6_0) rfl rfl k) ?_
  show OwnEnds p.tables e below _ (s₁.setTop (mkF m 1 #[.val (.ref a0), .val (.ref a1), .unset, .unset, .unset] [(.ref a0)]))
  obtain ⟨T1, X1, e1, st1⟩ := getF X0 hx hZ hown (host := "") (Or.inl (hw _ (List.mem_of_getElem? (i := 26) rfl))) Via.refl e0 F_pos (g := (mkF m 1 #[.val (.ref a0), .val (.ref a1), .unset, .unset, .unset] [(.ref a0)])) rfl rfl (hb hby d6_1)
  refine own_via st1 ?_
  show OwnEnds p.tables e below _ (T1.setTop (mkF m 4 #[.val (.ref a0), .val (.ref a1), .unset, .unset, .unset] [(.ref pos)]))
  refine own_via (own_len X1 hx hZ e1 A_pos (z := (1 : Int32)) rfl (g := (mkF m 4 #[.val (.ref a0), .val (.ref a1), .unset, .unset, .unset] [(.ref pos)])) rfl rfl (hb hby d6_4)) ?_
  show OwnEnds p.tables e below _ (T1.setTop (mkF m 5 #[.val (.ref a0), .val (.ref a1), .unset, .unset, .unset] [(.int (1 : Int32))]))
  obtain ⟨T2, h2, k2, X2, e2, E2, A2, st2⟩ := newP X1 hx hZ (hw _ (List.mem_of_getElem? (i := 33) rfl)) e1 (g := (mkF m 5 #[.val (.ref a0), .val (.ref a1), .unset, .unset, .unset] [(.int (1 : Int32))])) rfl (hb hby d6_5) rfl (by decide) (cap := 1) (by decide) (by decide) (by decide) (by decide)
  obtain ⟨b2, g2⟩ : ∃ z, z = h0.size := ⟨_, rfl⟩
  rw [← g2] at A2 st2
  have ne_a0_b2 : a0 ≠ b2 := Nat.ne_of_lt (Nat.lt_of_lt_of_le E_a0.lt (Nat.le_of_eq g2.symm))
  have ne_a1_b2 : a1 ≠ b2 := Nat.ne_of_lt (Nat.lt_of_lt_of_le A_a1.lt (Nat.le_of_eq g2.symm))
  have ne_pos_b2 : pos ≠ b2 := Nat.ne_of_lt (Nat.lt_of_lt_of_le A_pos.lt (Nat.le_of_eq g2.symm))
  have g_b2 : n0 ≤ b2 := Nat.le_trans Z0 (Nat.le_of_eq g2.symm)
  have sz_b2 : h0.size ≤ b2 := Nat.le_trans K0.1 (Nat.le_of_eq g2.symm)
  have Zs_2 : n0 ≤ _ := Nat.le_trans Z0 E2.1
  replace E_a0 := E_a0.ext E2
  replace F_pos := F_pos.ext E2
  replace A_pos := A_pos.ext E2
  replace A_a1 := A_a1.ext E2
  replace K0 := K0.ext E2
  have A_b2 : AL Z h2 b2 .boolean [(.int (0 : Int32))] := AL.new A2 (by decide) (i := 1) rfl
  refine own_via st2 ?_
  show OwnEnds p.tables e below _ (T2.setTop (mkF m 7 #[.val (.ref a0), .val (.ref a1), .unset, .unset, .unset] [(.ref b2)]))
  refine own_via (fun t k => XS.astoreN X2.here hx rfl (hb hby d6_7) rfl rfl (l' := #[.val (.ref a0), .val (.ref a1), .val (.ref b2), .unset, .unset]) rfl k) ?_
  show OwnEnds p.tables e below _ (T2.setTop (mkF m 8 #[.val (.ref a0), .val (.ref a1), .val (.ref b2), .unset, .unset] []))
  refine own_via (fun t k => XS.iconst X2.here hx rfl (hb hby d6_8) k) ?_
  show OwnEnds p.tables e below _ (T2.setTop (mkF m 9 #[.val (.ref a0), .val (.ref a1), .val (.ref b2), .unset, .unset] [(.int (0 : Int32))]))
  refine own_via (fun t k => XS.istoreN X2.here hx rfl (hb hby d6_9) rfl (l' := #[.val (.ref a0), .val (.ref a1), .val (.ref b2), .val (.int (0 : Int32)), .unset]) rfl k) ?_
  show OwnEnds p.tables e below _ (T2.setTop (mkF m 10 #[.val (.ref a0), .val (.ref a1), .val (.ref b2), .val (.int (0 : Int32)), .unset] []))
  refine own_via (fun t k => XS.iloadN X2.here hx rfl (hb hby d6_10) rfl k) ?_
  show OwnEnds p.tables e below _ (T2.setTop (mkF m 11 #[.val (.ref a0), .val (.ref a1), .val (.ref b2), .val (.int (0 : Int32)), .unset] [(.int (0 : Int32))]))
  refine own_via (fun t k => XS.aloadN X2.here hx rfl (hb hby d6_11) rfl rfl k) ?_
  show OwnEnds p.tables e below _ (T2.setTop (mkF m 12 #[.val (.ref a0), .val (.ref a1), .val (.ref b2), .val (.int (0 : Int32)), .unset] [(.ref a0), (.int (0 : Int32))]))
  obtain ⟨T3, X3, e3, st3⟩ := getF X2 hx hZ hown (host := "") (Or.inl (hw _ (List.mem_of_getElem? (i := 26) rfl))) Via.refl e2 F_pos (g := (mkF m 12 #[.val (.ref a0), .val (.ref a1), .val (.ref b2), .val (.int (0 : Int32)), .unset] [(.ref a0), (.int (0 : Int32))])) rfl rfl (hb hby d6_12)
  refine own_via st3 ?_
  show OwnEnds p.tables e below _ (T3.setTop (mkF m 15 #[.val (.ref a0), .val (.ref a1), .val (.ref b2), .val (.int (0 : Int32)), .unset] [(.ref pos), (.int (0 : Int32))]))
  refine own_via (own_len X3 hx hZ e3 A_pos (z := (1 : Int32)) rfl (g := (mkF m 15 #[.val (.ref a0), .val (.ref a1), .val (.ref b2), .val (.int (0 : Int32)), .unset] [(.ref pos), (.int (0 : Int32))])) rfl rfl (hb hby d6_15)) ?_
  show OwnEnds p.tables e below _ (T3.setTop (mkF m 16 #[.val (.ref a0), .val (.ref a1), .val (.ref b2), .val (.int (0 : Int32)), .unset] [(.int (1 : Int32)), (.int (0 : Int32))]))
  have hc16_4 : (0 : Int32) < (1 : Int32) := by decide
  refine own_via (fun t k => XS.icmpNo X3.here hx rfl (hb hby d6_16) rfl (tlt hc16_4).2.1 k) ?_
  show OwnEnds p.tables e below _ (T3.setTop (mkF m 19 #[.val (.ref a0), .val (.ref a1), .val (.ref b2), .val (.int (0 : Int32)), .unset] []))
  refine own_via (fun t k => XS.aloadN X3.here hx rfl (hb hby d6_19) rfl rfl k) ?_
  show OwnEnds p.tables e below _ (T3.setTop (mkF m 20 #[.val (.ref a0), .val (.ref a1), .val (.ref b2), .val (.int (0 : Int32)), .unset] [(.ref a0)]))
  obtain ⟨T5, X5, e5, st5⟩ := getF X3 hx hZ hown (host := "") (Or.inl (hw _ (List.mem_of_getElem? (i := 26) rfl))) Via.refl e3 F_pos (g := (mkF m 20 #[.val (.ref a0), .val (.ref a1), .val (.ref b2), .val (.int (0 : Int32)), .unset] [(.ref a0)])) rfl rfl (hb hby d6_20)
  refine own_via st5 ?_
  show OwnEnds p.tables e below _ (T5.setTop (mkF m 23 #[.val (.ref a0), .val (.ref a1), .val (.ref b2), .val (.int (0 : Int32)), .unset] [(.ref pos)]))
  refine own_via (fun t k => XS.iloadN X5.here hx rfl (hb hby d6_23) rfl k) ?_
  show OwnEnds p.tables e below _ (T5.setTop (mkF m 24 #[.val (.ref a0), .val (.ref a1), .val (.ref b2), .val (.int (0 : Int32)), .unset] [(.int (0 : Int32)), (.ref pos)]))
  refine own_via (own_ldI X5 hx hZ e5 A_pos (v := (.int u0)) 0 rfl rfl (g := (mkF m 24 #[.val (.ref a0), .val (.ref a1), .val (.ref b2), .val (.int (0 : Int32)), .unset] [(.int (0 : Int32)), (.ref pos)])) rfl rfl (hb hby d6_24)) ?_
  show OwnEnds p.tables e below _ (T5.setTop (mkF m 25 #[.val (.ref a0), .val (.ref a1), .val (.ref b2), .val (.int (0 : Int32)), .unset] [(.int u0)]))
  refine own_via (fun t k => XS.bipush X5.here hx rfl (hb hby d6_25) k) ?_
  show OwnEnds p.tables e below _ (T5.setTop (mkF m 27 #[.val (.ref a0), .val (.ref a1), .val (.ref b2), .val (.int (0 : Int32)), .unset] [(.int (8 : Int32)), (.int u0)]))
  refine own_via (fun t k => XS.idiv X5.here hx rfl (hb hby d6_27) rfl (by decide) k) ?_
  show OwnEnds p.tables e below _ (T5.setTop (mkF m 28 #[.val (.ref a0), .val (.ref a1), .val (.ref b2), .val (.int (0 : Int32)), .unset] [(.int (u0 / (8 : Int32)))]))
  refine own_via (fun t k => XS.istore X5.here hx rfl (hb hby d6_28) rfl (l' := #[.val (.ref a0), .val (.ref a1), .val (.ref b2), .val (.int (0 : Int32)), .val (.int (u0 / (8 : Int32)))]) rfl k) ?_
  show OwnEnds p.tables e below _ (T5.setTop (mkF m 30 #[.val (.ref a0), .val (.ref a1), .val (.ref b2), .val (.int (0 : Int32)), .val (.int (u0 / (8 : Int32)))] []))
  refine own_via (fun t k => XS.aloadN X5.here hx rfl (hb hby d6_30) rfl rfl k) ?_
  show OwnEnds p.tables e below _ (T5.setTop (mkF m 31 #[.val (.ref a0), .val (.ref a1), .val (.ref b2), .val (.int (0 : Int32)), .val (.int (u0 / (8 : Int32)))] [(.ref b2)]))
  refine own_via (fun t k => XS.iloadN X5.here hx rfl (hb hby d6_31) rfl k) ?_
  show OwnEnds p.tables e below _ (T5.setTop (mkF m 32 #[.val (.ref a0), .val (.ref a1), .val (.ref b2), .val (.int (0 : Int32)), .val (.int (u0 / (8 : Int32)))] [(.int (0 : Int32)), (.ref b2)]))
  refine own_via (fun t k => XS.iload X5.here hx rfl (hb hby d6_32) rfl k) ?_
  show OwnEnds p.tables e below _ (T5.setTop (mkF m 34 #[.val (.ref a0), .val (.ref a1), .val (.ref b2), .val (.int (0 : Int32)), .val (.int (u0 / (8 : Int32)))] [(.int (u0 / (8 : Int32))), (.int (0 : Int32)), (.ref b2)]))
  refine own_via (fun t k => XS.aloadN X5.here hx rfl (hb hby d6_34) rfl rfl k) ?_
  show OwnEnds p.tables e below _ (T5.setTop (mkF m 35 #[.val (.ref a0), .val (.ref a1), .val (.ref b2), .val (.int (0 : Int32)), .val (.int (u0 / (8 : Int32)))] [(.ref a1), (.int (u0 / (8 : Int32))), (.int (0 : Int32)), (.ref b2)]))
  refine own_via (own_len X5 hx hZ e5 A_a1 (z := nn) (by rw [own_bll]; exact hn) (g := (mkF m 35 #[.val (.ref a0), .val (.ref a1), .val (.ref b2), .val (.int (0 : Int32)), .val (.int (u0 / (8 : Int32)))] [(.ref a1), (.int (u0 / (8 : Int32))), (.int (0 : Int32)), (.ref b2)])) rfl rfl (hb hby d6_35)) ?_
  show OwnEnds p.tables e below _ (T5.setTop (mkF m 36 #[.val (.ref a0), .val (.ref a1), .val (.ref b2), .val (.int (0 : Int32)), .val (.int (u0 / (8 : Int32)))] [(.int nn), (.int (u0 / (8 : Int32))), (.int (0 : Int32)), (.ref b2)]))
  have J65_6 : ∀ (TJ65_6 : State) (locsJ65_6 : List Loc), ∀ f0 : Int32, Stand p l e ({ frames := 0, cells := 1, slots := 2, locals := 0 } : Room) s m #[(.ref a0), (.ref a1)] below meth c TJ65_6 locsJ65_6 1 1 → TJ65_6.heap = h2 → Fr n0 locsJ65_6 → f0 = (if (u0 / (8 : Int32)) < nn then (if ((own_by bits (u0 / 8).toNatClampNeg) &&& (((128 : Int32).toUInt32 >>> ((u0 % (8 : Int32)) &&& 31).toUInt32).toInt32)) = (0 : Int32) then (0 : Int32) else (1 : Int32)) else (0 : Int32)) → OwnEnds p.tables e below (OwnQ s ({ frames := 0, cells := 1, slots := 2, locals := 0 } : Room).cells ({ frames := 0, cells := 1, slots := 2, locals := 0 } : Room).slots (Q61 Z a0 a1 pos bits n nn u0 h0 n0)) (TJ65_6.setTop (mkF m 65 #[.val (.ref a0), .val (.ref a1), .val (.ref b2), .val (.int (0 : Int32)), .val (.int (u0 / (8 : Int32)))] [(.int f0), (.int (0 : Int32)), (.ref b2)])) := by
    intro TJ65_6 locsJ65_6 f0 XJ65_6 eJ65_6 NJ65_6 h_f0
    obtain ⟨T7, h7, X7, e7, W7, AA7, st7⟩ := own_stZ XJ65_6 hx hZ eJ65_6 A_b2 0 rfl (Nat.le_of_ble_eq_true rfl) (g := (mkF m 65 #[.val (.ref a0), .val (.ref a1), .val (.ref b2), .val (.int (0 : Int32)), .val (.int (u0 / (8 : Int32)))] [(.int f0), (.int (0 : Int32)), (.ref b2)])) rfl rfl (hb hby d6_65)
    replace E_a0 := E_a0.wr W7
    replace F_pos := F_pos.other W7 (Or.inl ne_a0_b2)
    replace A_pos := A_pos.other W7 ne_pos_b2
    replace A_a1 := A_a1.other W7 ne_a1_b2
    replace K0 := K0.wr W7 (Or.inr sz_b2)
    have Zs_W7 : n0 ≤ _ := Nat.le_trans Zs_2 (Keep.of_wr W7).1
    replace A_b2 : AL Z h7 b2 .boolean [(.int (nar .boolean f0))] := AA7
    have N7 := Fr.snoc X7 NJ65_6 g_b2
    refine own_via st7 ?_
    show OwnEnds p.tables e below _ (T7.setTop (mkF m 66 #[.val (.ref a0), .val (.ref a1), .val (.ref b2), .val (.int (0 : Int32)), .val (.int (u0 / (8 : Int32)))] []))
    refine own_via (fun t k => XS.iinc X7.here hx rfl (hb hby d6_66) rfl (l' := #[.val (.ref a0), .val (.ref a1), .val (.ref b2), .val (.int (1 : Int32)), .val (.int (u0 / (8 : Int32)))]) rfl k) ?_
    show OwnEnds p.tables e below _ (T7.setTop (mkF m 69 #[.val (.ref a0), .val (.ref a1), .val (.ref b2), .val (.int (1 : Int32)), .val (.int (u0 / (8 : Int32)))] []))
    refine own_via (fun t k => XS.goto X7.here hx rfl (pc0 := 69) (pc' := 10) rfl (hb hby d6_69) (by decide) (by decide) k) ?_
    show OwnEnds p.tables e below _ (T7.setTop (mkF m 10 #[.val (.ref a0), .val (.ref a1), .val (.ref b2), .val (.int (1 : Int32)), .val (.int (u0 / (8 : Int32)))] []))
    refine own_via (fun t k => XS.iloadN X7.here hx rfl (hb hby d6_10) rfl k) ?_
    show OwnEnds p.tables e below _ (T7.setTop (mkF m 11 #[.val (.ref a0), .val (.ref a1), .val (.ref b2), .val (.int (1 : Int32)), .val (.int (u0 / (8 : Int32)))] [(.int (1 : Int32))]))
    refine own_via (fun t k => XS.aloadN X7.here hx rfl (hb hby d6_11) rfl rfl k) ?_
    show OwnEnds p.tables e below _ (T7.setTop (mkF m 12 #[.val (.ref a0), .val (.ref a1), .val (.ref b2), .val (.int (1 : Int32)), .val (.int (u0 / (8 : Int32)))] [(.ref a0), (.int (1 : Int32))]))
    obtain ⟨T8, X8, e8, st8⟩ := getF X7 hx hZ hown (host := "") (Or.inl (hw _ (List.mem_of_getElem? (i := 26) rfl))) Via.refl e7 F_pos (g := (mkF m 12 #[.val (.ref a0), .val (.ref a1), .val (.ref b2), .val (.int (1 : Int32)), .val (.int (u0 / (8 : Int32)))] [(.ref a0), (.int (1 : Int32))])) rfl rfl (hb hby d6_12)
    refine own_via st8 ?_
    show OwnEnds p.tables e below _ (T8.setTop (mkF m 15 #[.val (.ref a0), .val (.ref a1), .val (.ref b2), .val (.int (1 : Int32)), .val (.int (u0 / (8 : Int32)))] [(.ref pos), (.int (1 : Int32))]))
    refine own_via (own_len X8 hx hZ e8 A_pos (z := (1 : Int32)) rfl (g := (mkF m 15 #[.val (.ref a0), .val (.ref a1), .val (.ref b2), .val (.int (1 : Int32)), .val (.int (u0 / (8 : Int32)))] [(.ref pos), (.int (1 : Int32))])) rfl rfl (hb hby d6_15)) ?_
    show OwnEnds p.tables e below _ (T8.setTop (mkF m 16 #[.val (.ref a0), .val (.ref a1), .val (.ref b2), .val (.int (1 : Int32)), .val (.int (u0 / (8 : Int32)))] [(.int (1 : Int32)), (.int (1 : Int32))]))
    have hc16_9 : ¬ ((1 : Int32) < (1 : Int32)) := by decide
    refine own_via (fun t k => XS.icmpYes X8.here hx rfl (pc0 := 16) (pc' := 72) rfl (hb hby d6_16) rfl (flt hc16_9).2.1 (by decide) (by decide) k) ?_
    show OwnEnds p.tables e below _ (T8.setTop (mkF m 72 #[.val (.ref a0), .val (.ref a1), .val (.ref b2), .val (.int (1 : Int32)), .val (.int (u0 / (8 : Int32)))] []))
    refine own_via (fun t k => XS.aloadN X8.here hx rfl (hb hby d6_72) rfl rfl k) ?_
    show OwnEnds p.tables e below _ (T8.setTop (mkF m 73 #[.val (.ref a0), .val (.ref a1), .val (.ref b2), .val (.int (1 : Int32)), .val (.int (u0 / (8 : Int32)))] [(.ref b2)]))
    have hf0 : f0 = own_f u0 nn bits := h_f0
    rw [hf0] at A_b2
    refine own_retA X8 hx Bd.returns rfl rfl hlk (hb hby d6_73) ?_ (by decide) (by decide)
    rw [e8]
    exact ⟨b2, rfl, N7, K0, sz_b2, A_b2⟩
  by_cases hc36_10 : (u0 / (8 : Int32)) < nn
  · skip
    refine own_via (fun t k => XS.icmpNo X5.here hx rfl (hb hby d6_36) rfl (tlt hc36_10).2.1 k) ?_
    show OwnEnds p.tables e below _ (T5.setTop (mkF m 39 #[.val (.ref a0), .val (.ref a1), .val (.ref b2), .val (.int (0 : Int32)), .val (.int (u0 / (8 : Int32)))] [(.int (0 : Int32)), (.ref b2)]))
    refine own_via (fun t k => XS.aloadN X5.here hx rfl (hb hby d6_39) rfl rfl k) ?_
    show OwnEnds p.tables e below _ (T5.setTop (mkF m 40 #[.val (.ref a0), .val (.ref a1), .val (.ref b2), .val (.int (0 : Int32)), .val (.int (u0 / (8 : Int32)))] [(.ref a1), (.int (0 : Int32)), (.ref b2)]))
    refine own_via (fun t k => XS.iload X5.here hx rfl (hb hby d6_40) rfl k) ?_
    show OwnEnds p.tables e below _ (T5.setTop (mkF m 42 #[.val (.ref a0), .val (.ref a1), .val (.ref b2), .val (.int (0 : Int32)), .val (.int (u0 / (8 : Int32)))] [(.int (u0 / (8 : Int32))), (.ref a1), (.int (0 : Int32)), (.ref b2)]))
    refine own_via (own_ldB X5 hx hZ e5 A_a1 (v := (.int (own_by bits (u0 / 8).toNatClampNeg))) ((u0 / 8).toNatClampNeg) (own_kd hu0 hn hc36_10).1 (own_bat bits (own_kd hu0 hn hc36_10).2) (g := (mkF m 42 #[.val (.ref a0), .val (.ref a1), .val (.ref b2), .val (.int (0 : Int32)), .val (.int (u0 / (8 : Int32)))] [(.int (u0 / (8 : Int32))), (.ref a1), (.int (0 : Int32)), (.ref b2)])) rfl rfl (hb hby d6_42)) ?_
    show OwnEnds p.tables e below _ (T5.setTop (mkF m 43 #[.val (.ref a0), .val (.ref a1), .val (.ref b2), .val (.int (0 : Int32)), .val (.int (u0 / (8 : Int32)))] [(.int (own_by bits (u0 / 8).toNatClampNeg)), (.int (0 : Int32)), (.ref b2)]))
    refine own_via (fun t k => XS.sipush X5.here hx rfl (hb hby d6_43) k) ?_
    show OwnEnds p.tables e below _ (T5.setTop (mkF m 46 #[.val (.ref a0), .val (.ref a1), .val (.ref b2), .val (.int (0 : Int32)), .val (.int (u0 / (8 : Int32)))] [(.int (128 : Int32)), (.int (own_by bits (u0 / 8).toNatClampNeg)), (.int (0 : Int32)), (.ref b2)]))
    refine own_via (fun t k => XS.aloadN X5.here hx rfl (hb hby d6_46) rfl rfl k) ?_
    show OwnEnds p.tables e below _ (T5.setTop (mkF m 47 #[.val (.ref a0), .val (.ref a1), .val (.ref b2), .val (.int (0 : Int32)), .val (.int (u0 / (8 : Int32)))] [(.ref a0), (.int (128 : Int32)), (.int (own_by bits (u0 / 8).toNatClampNeg)), (.int (0 : Int32)), (.ref b2)]))
    obtain ⟨T11, X11, e11, st11⟩ := getF X5 hx hZ hown (host := "") (Or.inl (hw _ (List.mem_of_getElem? (i := 26) rfl))) Via.refl e5 F_pos (g := (mkF m 47 #[.val (.ref a0), .val (.ref a1), .val (.ref b2), .val (.int (0 : Int32)), .val (.int (u0 / (8 : Int32)))] [(.ref a0), (.int (128 : Int32)), (.int (own_by bits (u0 / 8).toNatClampNeg)), (.int (0 : Int32)), (.ref b2)])) rfl rfl (hb hby d6_47)
    refine own_via st11 ?_
    show OwnEnds p.tables e below _ (T11.setTop (mkF m 50 #[.val (.ref a0), .val (.ref a1), .val (.ref b2), .val (.int (0 : Int32)), .val (.int (u0 / (8 : Int32)))] [(.ref pos), (.int (128 : Int32)), (.int (own_by bits (u0 / 8).toNatClampNeg)), (.int (0 : Int32)), (.ref b2)]))
    refine own_via (fun t k => XS.iloadN X11.here hx rfl (hb hby d6_50) rfl k) ?_
    show OwnEnds p.tables e below _ (T11.setTop (mkF m 51 #[.val (.ref a0), .val (.ref a1), .val (.ref b2), .val (.int (0 : Int32)), .val (.int (u0 / (8 : Int32)))] [(.int (0 : Int32)), (.ref pos), (.int (128 : Int32)), (.int (own_by bits (u0 / 8).toNatClampNeg)), (.int (0 : Int32)), (.ref b2)]))
    refine own_via (own_ldI X11 hx hZ e11 A_pos (v := (.int u0)) 0 rfl rfl (g := (mkF m 51 #[.val (.ref a0), .val (.ref a1), .val (.ref b2), .val (.int (0 : Int32)), .val (.int (u0 / (8 : Int32)))] [(.int (0 : Int32)), (.ref pos), (.int (128 : Int32)), (.int (own_by bits (u0 / 8).toNatClampNeg)), (.int (0 : Int32)), (.ref b2)])) rfl rfl (hb hby d6_51)) ?_
    show OwnEnds p.tables e below _ (T11.setTop (mkF m 52 #[.val (.ref a0), .val (.ref a1), .val (.ref b2), .val (.int (0 : Int32)), .val (.int (u0 / (8 : Int32)))] [(.int u0), (.int (128 : Int32)), (.int (own_by bits (u0 / 8).toNatClampNeg)), (.int (0 : Int32)), (.ref b2)]))
    refine own_via (fun t k => XS.bipush X11.here hx rfl (hb hby d6_52) k) ?_
    show OwnEnds p.tables e below _ (T11.setTop (mkF m 54 #[.val (.ref a0), .val (.ref a1), .val (.ref b2), .val (.int (0 : Int32)), .val (.int (u0 / (8 : Int32)))] [(.int (8 : Int32)), (.int u0), (.int (128 : Int32)), (.int (own_by bits (u0 / 8).toNatClampNeg)), (.int (0 : Int32)), (.ref b2)]))
    refine own_via (fun t k => Jvm.RoadKit.iremM X11 hx rfl (hb hby d6_54) rfl (by decide) k) ?_
    show OwnEnds p.tables e below _ (T11.setTop (mkF m 55 #[.val (.ref a0), .val (.ref a1), .val (.ref b2), .val (.int (0 : Int32)), .val (.int (u0 / (8 : Int32)))] [(.int (u0 % (8 : Int32))), (.int (128 : Int32)), (.int (own_by bits (u0 / 8).toNatClampNeg)), (.int (0 : Int32)), (.ref b2)]))
    refine own_via (fun t k => XS.iushr X11.here hx rfl (hb hby d6_55) rfl k) ?_
    show OwnEnds p.tables e below _ (T11.setTop (mkF m 56 #[.val (.ref a0), .val (.ref a1), .val (.ref b2), .val (.int (0 : Int32)), .val (.int (u0 / (8 : Int32)))] [(.int (((128 : Int32).toUInt32 >>> ((u0 % (8 : Int32)) &&& 31).toUInt32).toInt32)), (.int (own_by bits (u0 / 8).toNatClampNeg)), (.int (0 : Int32)), (.ref b2)]))
    refine own_via (fun t k => XS.iand X11.here hx rfl (hb hby d6_56) rfl k) ?_
    show OwnEnds p.tables e below _ (T11.setTop (mkF m 57 #[.val (.ref a0), .val (.ref a1), .val (.ref b2), .val (.int (0 : Int32)), .val (.int (u0 / (8 : Int32)))] [(.int ((own_by bits (u0 / 8).toNatClampNeg) &&& (((128 : Int32).toUInt32 >>> ((u0 % (8 : Int32)) &&& 31).toUInt32).toInt32))), (.int (0 : Int32)), (.ref b2)]))
    by_cases hc57_12 : ((own_by bits (u0 / 8).toNatClampNeg) &&& (((128 : Int32).toUInt32 >>> ((u0 % (8 : Int32)) &&& 31).toUInt32).toInt32)) = (0 : Int32)
    · skip
      refine own_via (fun t k => XS.ifYes X11.here hx rfl (pc0 := 57) (pc' := 64) rfl (hb hby d6_57) rfl ((if0 _ _).trans (teq hc57_12).1) (by decide) (by decide) k) ?_
      show OwnEnds p.tables e below _ (T11.setTop (mkF m 64 #[.val (.ref a0), .val (.ref a1), .val (.ref b2), .val (.int (0 : Int32)), .val (.int (u0 / (8 : Int32)))] [(.int (0 : Int32)), (.ref b2)]))
      refine own_via (fun t k => XS.iconst X11.here hx rfl (hb hby d6_64) k) ?_
      show OwnEnds p.tables e below _ (T11.setTop (mkF m 65 #[.val (.ref a0), .val (.ref a1), .val (.ref b2), .val (.int (0 : Int32)), .val (.int (u0 / (8 : Int32)))] [(.int (0 : Int32)), (.int (0 : Int32)), (.ref b2)]))
      exact J65_6 _ _ _ (own_wide X11 (by decide) (by decide)) e11 N0 (by simp only [if_pos hc36_10, if_pos hc57_12])
    · skip
      refine own_via (fun t k => XS.ifNo X11.here hx rfl (hb hby d6_57) rfl ((if0 _ _).trans (feq hc57_12).1) k) ?_
      show OwnEnds p.tables e below _ (T11.setTop (mkF m 60 #[.val (.ref a0), .val (.ref a1), .val (.ref b2), .val (.int (0 : Int32)), .val (.int (u0 / (8 : Int32)))] [(.int (0 : Int32)), (.ref b2)]))
      refine own_via (fun t k => XS.iconst X11.here hx rfl (hb hby d6_60) k) ?_
      show OwnEnds p.tables e below _ (T11.setTop (mkF m 61 #[.val (.ref a0), .val (.ref a1), .val (.ref b2), .val (.int (0 : Int32)), .val (.int (u0 / (8 : Int32)))] [(.int (1 : Int32)), (.int (0 : Int32)), (.ref b2)]))
      refine own_via (fun t k => XS.goto X11.here hx rfl (pc0 := 61) (pc' := 65) rfl (hb hby d6_61) (by decide) (by decide) k) ?_
      show OwnEnds p.tables e below _ (T11.setTop (mkF m 65 #[.val (.ref a0), .val (.ref a1), .val (.ref b2), .val (.int (0 : Int32)), .val (.int (u0 / (8 : Int32)))] [(.int (1 : Int32)), (.int (0 : Int32)), (.ref b2)]))
      exact J65_6 _ _ _ (own_wide X11 (by decide) (by decide)) e11 N0 (by simp only [if_pos hc36_10, if_neg hc57_12])
  · skip
    refine own_via (fun t k => XS.icmpYes X5.here hx rfl (pc0 := 36) (pc' := 64) rfl (hb hby d6_36) rfl (flt hc36_10).2.1 (by decide) (by decide) k) ?_
    show OwnEnds p.tables e below _ (T5.setTop (mkF m 64 #[.val (.ref a0), .val (.ref a1), .val (.ref b2), .val (.int (0 : Int32)), .val (.int (u0 / (8 : Int32)))] [(.int (0 : Int32)), (.ref b2)]))
    refine own_via (fun t k => XS.iconst X5.here hx rfl (hb hby d6_64) k) ?_
    show OwnEnds p.tables e below _ (T5.setTop (mkF m 65 #[.val (.ref a0), .val (.ref a1), .val (.ref b2), .val (.int (0 : Int32)), .val (.int (u0 / (8 : Int32)))] [(.int (0 : Int32)), (.int (0 : Int32)), (.ref b2)]))
    exact J65_6 _ _ _ (own_wide X5 (by decide) (by decide)) e5 N0 (by simp only [if_neg hc36_10])
theorem ef_62 (m : MethodId) (a0 : Addr) (a1 : Addr) : entryFrame m #[(.ref a0), (.ref a1)] 5 = mkF m 0 #[.val (.ref a0), .val (.ref a1), .unset, .unset, .unset] [] := by first | (simp [entryFrame, mkF, argsToLocals, Value.category]; done) | rfl
def Q62 (Z : State) (a0 : Addr) (a1 : Addr) (pos : Addr) (bits : Int32) (n : Nat) (nn : Int32) (u0 : Int32) (u1 : Int32) (h0 : Heap) (n0 : Nat) (v : Option Value) (h : Heap) (L : List Loc) : Prop := ∃ b : Addr, v = some (.ref b) ∧ Fr n0 L ∧ Keep h0 h [] ∧ h0.size ≤ b ∧ AL Z h b .boolean [.int (nar .boolean (own_f u0 nn bits)), .int (nar .boolean (own_f u1 nn bits))]
set_option maxRecDepth 65536 in
set_option maxHeartbeats 40000000 in
theorem rm62 (l : Launch) (Z : State) (aw : Array Value) (hw : ∀ d ∈ tables_1, d.before aw Z = true) (ws : List Jvm.Cond) (a0 : Addr) (a1 : Addr) (pos : Addr) (bits : Int32) (n : Nat) (nn : Int32) (u0 : Int32) (u1 : Int32) (h0 : Heap) (n0 : Nat) (Z0 : n0 ≤ h0.size) (E_a0 : Exa Z h0 a0 "com/example/crowd_cache/crowdcache/core/Bucket") (F_pos : Fld Z h0 a0 "com/example/crowd_cache/crowdcache/core/Bucket" "positions" "[I" (.ref pos)) (A_pos : AL Z h0 pos .int [(.int u0), (.int u1)]) (A_a1 : AL Z h0 a1 .byte (own_bl bits n)) (hn : nn.toInt = n) (hu0 : 0 ≤ u0.toInt ∧ u0.toInt ≤ 65535) (hu1 : 0 ≤ u1.toInt ∧ u1.toInt ≤ 65535) :
    MetFree l (⟨"com/example/crowd_cache/crowdcache/core/Bucket", "foundIn", "([B)[Z"⟩ : MethodName) (head1 (Jvm.Cond.code (⟨"com/example/crowd_cache/crowdcache/core/Bucket", "foundIn", "([B)[Z"⟩ : MethodName) prog_1_method_6_code 5 (some (.array .boolean)) :: ws) ({ frames := 0, cells := 1, slots := 2, locals := 0 } : Room)) (fun a U => a = #[(.ref a0), (.ref a1)] ∧ Z.Warmed39 U.vm ∧ U.heap = h0) (fun _ _ _ _ _ => True) (fun _ U o U' => ∃ v L, o = .returned v ∧ Q62 Z a0 a1 pos bits n nn u0 u1 h0 n0 v U'.heap L ∧ FrameEnd U o U' L ({ frames := 0, cells := 1, slots := 2, locals := 0 } : Room).cells ({ frames := 0, cells := 1, slots := 2, locals := 0 } : Room).slots) := by
  refine MetFree.of_bodySF (plainFor_of_name pn_1) hisR ?_
  intro p e s m args below meth c s₁ Bd hml0 hP hK
  obtain ⟨rfl, hZ, hh⟩ := hP
  have hx := Bd.exec
  have hby := Bd.bytes
  have hml : c.maxLocals = 5 := hml0
  have hown : s.vm.findClass "com/example/crowd_cache/crowdcache/core/Bucket" = some m.cls := findClass_of_methodNamed Bd.named
  have hnm := (name_of_methodNamed Bd.named Bd.method).1
  have hlk : meth.locks = false := Bd.notSynchronized
  have X0 : Stand p l e ({ frames := 0, cells := 1, slots := 2, locals := 0 } : Room) s m #[(.ref a0), (.ref a1)] below meth c s₁ [] 0 0 := Stand.of_body Bd
  have e0 : s₁.heap = h0 := by rw [← hh, Bd.state]; rfl
  have N0 := Fr.nil n0
  show OwnEnds p.tables e below (OwnQ s ({ frames := 0, cells := 1, slots := 2, locals := 0 } : Room).cells ({ frames := 0, cells := 1, slots := 2, locals := 0 } : Room).slots (Q62 Z a0 a1 pos bits n nn u0 u1 h0 n0)) (s₁.setTop (entryFrame m #[(.ref a0), (.ref a1)] 5))
  refine own_via (fun t k => castTop (ef_62 m a0 a1) k) ?_
  show OwnEnds p.tables e below _ (s₁.setTop (mkF m 0 #[.val (.ref a0), .val (.ref a1), .unset, .unset, .unset] []))
  have K0 : Keep h0 h0 [] := Keep.refl _ _
  refine own_via (fun t k => XS.aloadN X0.here hx rfl (hb hby d6_0) rfl rfl k) ?_
  show OwnEnds p.tables e below _ (s₁.setTop (mkF m 1 #[.val (.ref a0), .val (.ref a1), .unset, .unset, .unset] [(.ref a0)]))
  obtain ⟨T1, X1, e1, st1⟩ := getF X0 hx hZ hown (host := "") (Or.inl (hw _ (List.mem_of_getElem? (i := 26) rfl))) Via.refl e0 F_pos (g := (mkF m 1 #[.val (.ref a0), .val (.ref a1), .unset, .unset, .unset] [(.ref a0)])) rfl rfl (hb hby d6_1)
  refine own_via st1 ?_
  show OwnEnds p.tables e below _ (T1.setTop (mkF m 4 #[.val (.ref a0), .val (.ref a1), .unset, .unset, .unset] [(.ref pos)]))
  refine own_via (own_len X1 hx hZ e1 A_pos (z := (2 : Int32)) rfl (g := (mkF m 4 #[.val (.ref a0), .val (.ref a1), .unset, .unset, .unset] [(.ref pos)])) rfl rfl (hb hby d6_4)) ?_
  show OwnEnds p.tables e below _ (T1.setTop (mkF m 5 #[.val (.ref a0), .val (.ref a1), .unset, .unset, .unset] [(.int (2 : Int32))]))
  obtain ⟨T2, h2, k2, X2, e2, E2, A2, st2⟩ := newP X1 hx hZ (hw _ (List.mem_of_getElem? (i := 33) rfl)) e1 (g := (mkF m 5 #[.val (.ref a0), .val (.ref a1), .unset, .unset, .unset] [(.int (2 : Int32))])) rfl (hb hby d6_5) rfl (by decide) (cap := 2) (by decide) (by decide) (by decide) (by decide)
  obtain ⟨b2, g2⟩ : ∃ z, z = h0.size := ⟨_, rfl⟩
  rw [← g2] at A2 st2
  have ne_a0_b2 : a0 ≠ b2 := Nat.ne_of_lt (Nat.lt_of_lt_of_le E_a0.lt (Nat.le_of_eq g2.symm))
  have ne_a1_b2 : a1 ≠ b2 := Nat.ne_of_lt (Nat.lt_of_lt_of_le A_a1.lt (Nat.le_of_eq g2.symm))
  have ne_pos_b2 : pos ≠ b2 := Nat.ne_of_lt (Nat.lt_of_lt_of_le A_pos.lt (Nat.le_of_eq g2.symm))
  have g_b2 : n0 ≤ b2 := Nat.le_trans Z0 (Nat.le_of_eq g2.symm)
  have sz_b2 : h0.size ≤ b2 := Nat.le_trans K0.1 (Nat.le_of_eq g2.symm)
  have Zs_2 : n0 ≤ _ := Nat.le_trans Z0 E2.1
  replace E_a0 := E_a0.ext E2
  replace F_pos := F_pos.ext E2
  replace A_pos := A_pos.ext E2
  replace A_a1 := A_a1.ext E2
  replace K0 := K0.ext E2
  have A_b2 : AL Z h2 b2 .boolean [(.int (0 : Int32)), (.int (0 : Int32))] := AL.new A2 (by decide) (i := 2) rfl
  refine own_via st2 ?_
  show OwnEnds p.tables e below _ (T2.setTop (mkF m 7 #[.val (.ref a0), .val (.ref a1), .unset, .unset, .unset] [(.ref b2)]))
  refine own_via (fun t k => XS.astoreN X2.here hx rfl (hb hby d6_7) rfl rfl (l' := #[.val (.ref a0), .val (.ref a1), .val (.ref b2), .unset, .unset]) rfl k) ?_
  show OwnEnds p.tables e below _ (T2.setTop (mkF m 8 #[.val (.ref a0), .val (.ref a1), .val (.ref b2), .unset, .unset] []))
  refine own_via (fun t k => XS.iconst X2.here hx rfl (hb hby d6_8) k) ?_
  show OwnEnds p.tables e below _ (T2.setTop (mkF m 9 #[.val (.ref a0), .val (.ref a1), .val (.ref b2), .unset, .unset] [(.int (0 : Int32))]))
  refine own_via (fun t k => XS.istoreN X2.here hx rfl (hb hby d6_9) rfl (l' := #[.val (.ref a0), .val (.ref a1), .val (.ref b2), .val (.int (0 : Int32)), .unset]) rfl k) ?_
  show OwnEnds p.tables e below _ (T2.setTop (mkF m 10 #[.val (.ref a0), .val (.ref a1), .val (.ref b2), .val (.int (0 : Int32)), .unset] []))
  refine own_via (fun t k => XS.iloadN X2.here hx rfl (hb hby d6_10) rfl k) ?_
  show OwnEnds p.tables e below _ (T2.setTop (mkF m 11 #[.val (.ref a0), .val (.ref a1), .val (.ref b2), .val (.int (0 : Int32)), .unset] [(.int (0 : Int32))]))
  refine own_via (fun t k => XS.aloadN X2.here hx rfl (hb hby d6_11) rfl rfl k) ?_
  show OwnEnds p.tables e below _ (T2.setTop (mkF m 12 #[.val (.ref a0), .val (.ref a1), .val (.ref b2), .val (.int (0 : Int32)), .unset] [(.ref a0), (.int (0 : Int32))]))
  obtain ⟨T3, X3, e3, st3⟩ := getF X2 hx hZ hown (host := "") (Or.inl (hw _ (List.mem_of_getElem? (i := 26) rfl))) Via.refl e2 F_pos (g := (mkF m 12 #[.val (.ref a0), .val (.ref a1), .val (.ref b2), .val (.int (0 : Int32)), .unset] [(.ref a0), (.int (0 : Int32))])) rfl rfl (hb hby d6_12)
  refine own_via st3 ?_
  show OwnEnds p.tables e below _ (T3.setTop (mkF m 15 #[.val (.ref a0), .val (.ref a1), .val (.ref b2), .val (.int (0 : Int32)), .unset] [(.ref pos), (.int (0 : Int32))]))
  refine own_via (own_len X3 hx hZ e3 A_pos (z := (2 : Int32)) rfl (g := (mkF m 15 #[.val (.ref a0), .val (.ref a1), .val (.ref b2), .val (.int (0 : Int32)), .unset] [(.ref pos), (.int (0 : Int32))])) rfl rfl (hb hby d6_15)) ?_
  show OwnEnds p.tables e below _ (T3.setTop (mkF m 16 #[.val (.ref a0), .val (.ref a1), .val (.ref b2), .val (.int (0 : Int32)), .unset] [(.int (2 : Int32)), (.int (0 : Int32))]))
  have hc16_4 : (0 : Int32) < (2 : Int32) := by decide
  refine own_via (fun t k => XS.icmpNo X3.here hx rfl (hb hby d6_16) rfl (tlt hc16_4).2.1 k) ?_
  show OwnEnds p.tables e below _ (T3.setTop (mkF m 19 #[.val (.ref a0), .val (.ref a1), .val (.ref b2), .val (.int (0 : Int32)), .unset] []))
  refine own_via (fun t k => XS.aloadN X3.here hx rfl (hb hby d6_19) rfl rfl k) ?_
  show OwnEnds p.tables e below _ (T3.setTop (mkF m 20 #[.val (.ref a0), .val (.ref a1), .val (.ref b2), .val (.int (0 : Int32)), .unset] [(.ref a0)]))
  obtain ⟨T5, X5, e5, st5⟩ := getF X3 hx hZ hown (host := "") (Or.inl (hw _ (List.mem_of_getElem? (i := 26) rfl))) Via.refl e3 F_pos (g := (mkF m 20 #[.val (.ref a0), .val (.ref a1), .val (.ref b2), .val (.int (0 : Int32)), .unset] [(.ref a0)])) rfl rfl (hb hby d6_20)
  refine own_via st5 ?_
  show OwnEnds p.tables e below _ (T5.setTop (mkF m 23 #[.val (.ref a0), .val (.ref a1), .val (.ref b2), .val (.int (0 : Int32)), .unset] [(.ref pos)]))
  refine own_via (fun t k => XS.iloadN X5.here hx rfl (hb hby d6_23) rfl k) ?_
  show OwnEnds p.tables e below _ (T5.setTop (mkF m 24 #[.val (.ref a0), .val (.ref a1), .val (.ref b2), .val (.int (0 : Int32)), .unset] [(.int (0 : Int32)), (.ref pos)]))
  refine own_via (own_ldI X5 hx hZ e5 A_pos (v := (.int u0)) 0 rfl rfl (g := (mkF m 24 #[.val (.ref a0), .val (.ref a1), .val (.ref b2), .val (.int (0 : Int32)), .unset] [(.int (0 : Int32)), (.ref pos)])) rfl rfl (hb hby d6_24)) ?_
  show OwnEnds p.tables e below _ (T5.setTop (mkF m 25 #[.val (.ref a0), .val (.ref a1), .val (.ref b2), .val (.int (0 : Int32)), .unset] [(.int u0)]))
  refine own_via (fun t k => XS.bipush X5.here hx rfl (hb hby d6_25) k) ?_
  show OwnEnds p.tables e below _ (T5.setTop (mkF m 27 #[.val (.ref a0), .val (.ref a1), .val (.ref b2), .val (.int (0 : Int32)), .unset] [(.int (8 : Int32)), (.int u0)]))
  refine own_via (fun t k => XS.idiv X5.here hx rfl (hb hby d6_27) rfl (by decide) k) ?_
  show OwnEnds p.tables e below _ (T5.setTop (mkF m 28 #[.val (.ref a0), .val (.ref a1), .val (.ref b2), .val (.int (0 : Int32)), .unset] [(.int (u0 / (8 : Int32)))]))
  refine own_via (fun t k => XS.istore X5.here hx rfl (hb hby d6_28) rfl (l' := #[.val (.ref a0), .val (.ref a1), .val (.ref b2), .val (.int (0 : Int32)), .val (.int (u0 / (8 : Int32)))]) rfl k) ?_
  show OwnEnds p.tables e below _ (T5.setTop (mkF m 30 #[.val (.ref a0), .val (.ref a1), .val (.ref b2), .val (.int (0 : Int32)), .val (.int (u0 / (8 : Int32)))] []))
  refine own_via (fun t k => XS.aloadN X5.here hx rfl (hb hby d6_30) rfl rfl k) ?_
  show OwnEnds p.tables e below _ (T5.setTop (mkF m 31 #[.val (.ref a0), .val (.ref a1), .val (.ref b2), .val (.int (0 : Int32)), .val (.int (u0 / (8 : Int32)))] [(.ref b2)]))
  refine own_via (fun t k => XS.iloadN X5.here hx rfl (hb hby d6_31) rfl k) ?_
  show OwnEnds p.tables e below _ (T5.setTop (mkF m 32 #[.val (.ref a0), .val (.ref a1), .val (.ref b2), .val (.int (0 : Int32)), .val (.int (u0 / (8 : Int32)))] [(.int (0 : Int32)), (.ref b2)]))
  refine own_via (fun t k => XS.iload X5.here hx rfl (hb hby d6_32) rfl k) ?_
  show OwnEnds p.tables e below _ (T5.setTop (mkF m 34 #[.val (.ref a0), .val (.ref a1), .val (.ref b2), .val (.int (0 : Int32)), .val (.int (u0 / (8 : Int32)))] [(.int (u0 / (8 : Int32))), (.int (0 : Int32)), (.ref b2)]))
  refine own_via (fun t k => XS.aloadN X5.here hx rfl (hb hby d6_34) rfl rfl k) ?_
  show OwnEnds p.tables e below _ (T5.setTop (mkF m 35 #[.val (.ref a0), .val (.ref a1), .val (.ref b2), .val (.int (0 : Int32)), .val (.int (u0 / (8 : Int32)))] [(.ref a1), (.int (u0 / (8 : Int32))), (.int (0 : Int32)), (.ref b2)]))
  refine own_via (own_len X5 hx hZ e5 A_a1 (z := nn) (by rw [own_bll]; exact hn) (g := (mkF m 35 #[.val (.ref a0), .val (.ref a1), .val (.ref b2), .val (.int (0 : Int32)), .val (.int (u0 / (8 : Int32)))] [(.ref a1), (.int (u0 / (8 : Int32))), (.int (0 : Int32)), (.ref b2)])) rfl rfl (hb hby d6_35)) ?_
  show OwnEnds p.tables e below _ (T5.setTop (mkF m 36 #[.val (.ref a0), .val (.ref a1), .val (.ref b2), .val (.int (0 : Int32)), .val (.int (u0 / (8 : Int32)))] [(.int nn), (.int (u0 / (8 : Int32))), (.int (0 : Int32)), (.ref b2)]))
  have J65_6 : ∀ (TJ65_6 : State) (locsJ65_6 : List Loc), ∀ f0 : Int32, Stand p l e ({ frames := 0, cells := 1, slots := 2, locals := 0 } : Room) s m #[(.ref a0), (.ref a1)] below meth c TJ65_6 locsJ65_6 1 2 → TJ65_6.heap = h2 → Fr n0 locsJ65_6 → f0 = (if (u0 / (8 : Int32)) < nn then (if ((own_by bits (u0 / 8).toNatClampNeg) &&& (((128 : Int32).toUInt32 >>> ((u0 % (8 : Int32)) &&& 31).toUInt32).toInt32)) = (0 : Int32) then (0 : Int32) else (1 : Int32)) else (0 : Int32)) → OwnEnds p.tables e below (OwnQ s ({ frames := 0, cells := 1, slots := 2, locals := 0 } : Room).cells ({ frames := 0, cells := 1, slots := 2, locals := 0 } : Room).slots (Q62 Z a0 a1 pos bits n nn u0 u1 h0 n0)) (TJ65_6.setTop (mkF m 65 #[.val (.ref a0), .val (.ref a1), .val (.ref b2), .val (.int (0 : Int32)), .val (.int (u0 / (8 : Int32)))] [(.int f0), (.int (0 : Int32)), (.ref b2)])) := by
    intro TJ65_6 locsJ65_6 f0 XJ65_6 eJ65_6 NJ65_6 h_f0
    obtain ⟨T7, h7, X7, e7, W7, AA7, st7⟩ := own_stZ XJ65_6 hx hZ eJ65_6 A_b2 0 rfl (Nat.le_of_ble_eq_true rfl) (g := (mkF m 65 #[.val (.ref a0), .val (.ref a1), .val (.ref b2), .val (.int (0 : Int32)), .val (.int (u0 / (8 : Int32)))] [(.int f0), (.int (0 : Int32)), (.ref b2)])) rfl rfl (hb hby d6_65)
    replace E_a0 := E_a0.wr W7
    replace F_pos := F_pos.other W7 (Or.inl ne_a0_b2)
    replace A_pos := A_pos.other W7 ne_pos_b2
    replace A_a1 := A_a1.other W7 ne_a1_b2
    replace K0 := K0.wr W7 (Or.inr sz_b2)
    have Zs_W7 : n0 ≤ _ := Nat.le_trans Zs_2 (Keep.of_wr W7).1
    replace A_b2 : AL Z h7 b2 .boolean [(.int (nar .boolean f0)), (.int (0 : Int32))] := AA7
    have N7 := Fr.snoc X7 NJ65_6 g_b2
    refine own_via st7 ?_
    show OwnEnds p.tables e below _ (T7.setTop (mkF m 66 #[.val (.ref a0), .val (.ref a1), .val (.ref b2), .val (.int (0 : Int32)), .val (.int (u0 / (8 : Int32)))] []))
    refine own_via (fun t k => XS.iinc X7.here hx rfl (hb hby d6_66) rfl (l' := #[.val (.ref a0), .val (.ref a1), .val (.ref b2), .val (.int (1 : Int32)), .val (.int (u0 / (8 : Int32)))]) rfl k) ?_
    show OwnEnds p.tables e below _ (T7.setTop (mkF m 69 #[.val (.ref a0), .val (.ref a1), .val (.ref b2), .val (.int (1 : Int32)), .val (.int (u0 / (8 : Int32)))] []))
    refine own_via (fun t k => XS.goto X7.here hx rfl (pc0 := 69) (pc' := 10) rfl (hb hby d6_69) (by decide) (by decide) k) ?_
    show OwnEnds p.tables e below _ (T7.setTop (mkF m 10 #[.val (.ref a0), .val (.ref a1), .val (.ref b2), .val (.int (1 : Int32)), .val (.int (u0 / (8 : Int32)))] []))
    refine own_via (fun t k => XS.iloadN X7.here hx rfl (hb hby d6_10) rfl k) ?_
    show OwnEnds p.tables e below _ (T7.setTop (mkF m 11 #[.val (.ref a0), .val (.ref a1), .val (.ref b2), .val (.int (1 : Int32)), .val (.int (u0 / (8 : Int32)))] [(.int (1 : Int32))]))
    refine own_via (fun t k => XS.aloadN X7.here hx rfl (hb hby d6_11) rfl rfl k) ?_
    show OwnEnds p.tables e below _ (T7.setTop (mkF m 12 #[.val (.ref a0), .val (.ref a1), .val (.ref b2), .val (.int (1 : Int32)), .val (.int (u0 / (8 : Int32)))] [(.ref a0), (.int (1 : Int32))]))
    obtain ⟨T8, X8, e8, st8⟩ := getF X7 hx hZ hown (host := "") (Or.inl (hw _ (List.mem_of_getElem? (i := 26) rfl))) Via.refl e7 F_pos (g := (mkF m 12 #[.val (.ref a0), .val (.ref a1), .val (.ref b2), .val (.int (1 : Int32)), .val (.int (u0 / (8 : Int32)))] [(.ref a0), (.int (1 : Int32))])) rfl rfl (hb hby d6_12)
    refine own_via st8 ?_
    show OwnEnds p.tables e below _ (T8.setTop (mkF m 15 #[.val (.ref a0), .val (.ref a1), .val (.ref b2), .val (.int (1 : Int32)), .val (.int (u0 / (8 : Int32)))] [(.ref pos), (.int (1 : Int32))]))
    refine own_via (own_len X8 hx hZ e8 A_pos (z := (2 : Int32)) rfl (g := (mkF m 15 #[.val (.ref a0), .val (.ref a1), .val (.ref b2), .val (.int (1 : Int32)), .val (.int (u0 / (8 : Int32)))] [(.ref pos), (.int (1 : Int32))])) rfl rfl (hb hby d6_15)) ?_
    show OwnEnds p.tables e below _ (T8.setTop (mkF m 16 #[.val (.ref a0), .val (.ref a1), .val (.ref b2), .val (.int (1 : Int32)), .val (.int (u0 / (8 : Int32)))] [(.int (2 : Int32)), (.int (1 : Int32))]))
    have hc16_9 : (1 : Int32) < (2 : Int32) := by decide
    refine own_via (fun t k => XS.icmpNo X8.here hx rfl (hb hby d6_16) rfl (tlt hc16_9).2.1 k) ?_
    show OwnEnds p.tables e below _ (T8.setTop (mkF m 19 #[.val (.ref a0), .val (.ref a1), .val (.ref b2), .val (.int (1 : Int32)), .val (.int (u0 / (8 : Int32)))] []))
    refine own_via (fun t k => XS.aloadN X8.here hx rfl (hb hby d6_19) rfl rfl k) ?_
    show OwnEnds p.tables e below _ (T8.setTop (mkF m 20 #[.val (.ref a0), .val (.ref a1), .val (.ref b2), .val (.int (1 : Int32)), .val (.int (u0 / (8 : Int32)))] [(.ref a0)]))
    obtain ⟨T10, X10, e10, st10⟩ := getF X8 hx hZ hown (host := "") (Or.inl (hw _ (List.mem_of_getElem? (i := 26) rfl))) Via.refl e8 F_pos (g := (mkF m 20 #[.val (.ref a0), .val (.ref a1), .val (.ref b2), .val (.int (1 : Int32)), .val (.int (u0 / (8 : Int32)))] [(.ref a0)])) rfl rfl (hb hby d6_20)
    refine own_via st10 ?_
    show OwnEnds p.tables e below _ (T10.setTop (mkF m 23 #[.val (.ref a0), .val (.ref a1), .val (.ref b2), .val (.int (1 : Int32)), .val (.int (u0 / (8 : Int32)))] [(.ref pos)]))
    refine own_via (fun t k => XS.iloadN X10.here hx rfl (hb hby d6_23) rfl k) ?_
    show OwnEnds p.tables e below _ (T10.setTop (mkF m 24 #[.val (.ref a0), .val (.ref a1), .val (.ref b2), .val (.int (1 : Int32)), .val (.int (u0 / (8 : Int32)))] [(.int (1 : Int32)), (.ref pos)]))
    refine own_via (own_ldI X10 hx hZ e10 A_pos (v := (.int u1)) 1 rfl rfl (g := (mkF m 24 #[.val (.ref a0), .val (.ref a1), .val (.ref b2), .val (.int (1 : Int32)), .val (.int (u0 / (8 : Int32)))] [(.int (1 : Int32)), (.ref pos)])) rfl rfl (hb hby d6_24)) ?_
    show OwnEnds p.tables e below _ (T10.setTop (mkF m 25 #[.val (.ref a0), .val (.ref a1), .val (.ref b2), .val (.int (1 : Int32)), .val (.int (u0 / (8 : Int32)))] [(.int u1)]))
    refine own_via (fun t k => XS.bipush X10.here hx rfl (hb hby d6_25) k) ?_
    show OwnEnds p.tables e below _ (T10.setTop (mkF m 27 #[.val (.ref a0), .val (.ref a1), .val (.ref b2), .val (.int (1 : Int32)), .val (.int (u0 / (8 : Int32)))] [(.int (8 : Int32)), (.int u1)]))
    refine own_via (fun t k => XS.idiv X10.here hx rfl (hb hby d6_27) rfl (by decide) k) ?_
    show OwnEnds p.tables e below _ (T10.setTop (mkF m 28 #[.val (.ref a0), .val (.ref a1), .val (.ref b2), .val (.int (1 : Int32)), .val (.int (u0 / (8 : Int32)))] [(.int (u1 / (8 : Int32)))]))
    refine own_via (fun t k => XS.istore X10.here hx rfl (hb hby d6_28) rfl (l' := #[.val (.ref a0), .val (.ref a1), .val (.ref b2), .val (.int (1 : Int32)), .val (.int (u1 / (8 : Int32)))]) rfl k) ?_
    show OwnEnds p.tables e below _ (T10.setTop (mkF m 30 #[.val (.ref a0), .val (.ref a1), .val (.ref b2), .val (.int (1 : Int32)), .val (.int (u1 / (8 : Int32)))] []))
    refine own_via (fun t k => XS.aloadN X10.here hx rfl (hb hby d6_30) rfl rfl k) ?_
    show OwnEnds p.tables e below _ (T10.setTop (mkF m 31 #[.val (.ref a0), .val (.ref a1), .val (.ref b2), .val (.int (1 : Int32)), .val (.int (u1 / (8 : Int32)))] [(.ref b2)]))
    refine own_via (fun t k => XS.iloadN X10.here hx rfl (hb hby d6_31) rfl k) ?_
    show OwnEnds p.tables e below _ (T10.setTop (mkF m 32 #[.val (.ref a0), .val (.ref a1), .val (.ref b2), .val (.int (1 : Int32)), .val (.int (u1 / (8 : Int32)))] [(.int (1 : Int32)), (.ref b2)]))
    refine own_via (fun t k => XS.iload X10.here hx rfl (hb hby d6_32) rfl k) ?_
    show OwnEnds p.tables e below _ (T10.setTop (mkF m 34 #[.val (.ref a0), .val (.ref a1), .val (.ref b2), .val (.int (1 : Int32)), .val (.int (u1 / (8 : Int32)))] [(.int (u1 / (8 : Int32))), (.int (1 : Int32)), (.ref b2)]))
    refine own_via (fun t k => XS.aloadN X10.here hx rfl (hb hby d6_34) rfl rfl k) ?_
    show OwnEnds p.tables e below _ (T10.setTop (mkF m 35 #[.val (.ref a0), .val (.ref a1), .val (.ref b2), .val (.int (1 : Int32)), .val (.int (u1 / (8 : Int32)))] [(.ref a1), (.int (u1 / (8 : Int32))), (.int (1 : Int32)), (.ref b2)]))
    refine own_via (own_len X10 hx hZ e10 A_a1 (z := nn) (by rw [own_bll]; exact hn) (g := (mkF m 35 #[.val (.ref a0), .val (.ref a1), .val (.ref b2), .val (.int (1 : Int32)), .val (.int (u1 / (8 : Int32)))] [(.ref a1), (.int (u1 / (8 : Int32))), (.int (1 : Int32)), (.ref b2)])) rfl rfl (hb hby d6_35)) ?_
    show OwnEnds p.tables e below _ (T10.setTop (mkF m 36 #[.val (.ref a0), .val (.ref a1), .val (.ref b2), .val (.int (1 : Int32)), .val (.int (u1 / (8 : Int32)))] [(.int nn), (.int (u1 / (8 : Int32))), (.int (1 : Int32)), (.ref b2)]))
    have J65_11 : ∀ (TJ65_11 : State) (locsJ65_11 : List Loc), ∀ f1 : Int32, Stand p l e ({ frames := 0, cells := 1, slots := 2, locals := 0 } : Room) s m #[(.ref a0), (.ref a1)] below meth c TJ65_11 locsJ65_11 1 2 → TJ65_11.heap = h7 → Fr n0 locsJ65_11 → f1 = (if (u1 / (8 : Int32)) < nn then (if ((own_by bits (u1 / 8).toNatClampNeg) &&& (((128 : Int32).toUInt32 >>> ((u1 % (8 : Int32)) &&& 31).toUInt32).toInt32)) = (0 : Int32) then (0 : Int32) else (1 : Int32)) else (0 : Int32)) → OwnEnds p.tables e below (OwnQ s ({ frames := 0, cells := 1, slots := 2, locals := 0 } : Room).cells ({ frames := 0, cells := 1, slots := 2, locals := 0 } : Room).slots (Q62 Z a0 a1 pos bits n nn u0 u1 h0 n0)) (TJ65_11.setTop (mkF m 65 #[.val (.ref a0), .val (.ref a1), .val (.ref b2), .val (.int (1 : Int32)), .val (.int (u1 / (8 : Int32)))] [(.int f1), (.int (1 : Int32)), (.ref b2)])) := by
      intro TJ65_11 locsJ65_11 f1 XJ65_11 eJ65_11 NJ65_11 h_f1
      obtain ⟨T12, h12, X12, e12, W12, AA12, st12⟩ := own_stZ XJ65_11 hx hZ eJ65_11 A_b2 1 rfl (Nat.le_of_ble_eq_true rfl) (g := (mkF m 65 #[.val (.ref a0), .val (.ref a1), .val (.ref b2), .val (.int (1 : Int32)), .val (.int (u1 / (8 : Int32)))] [(.int f1), (.int (1 : Int32)), (.ref b2)])) rfl rfl (hb hby d6_65)
      replace E_a0 := E_a0.wr W12
      replace F_pos := F_pos.other W12 (Or.inl ne_a0_b2)
      replace A_pos := A_pos.other W12 ne_pos_b2
      replace A_a1 := A_a1.other W12 ne_a1_b2
      replace K0 := K0.wr W12 (Or.inr sz_b2)
      have Zs_W12 : n0 ≤ _ := Nat.le_trans Zs_W7 (Keep.of_wr W12).1
      replace A_b2 : AL Z h12 b2 .boolean [(.int (nar .boolean f0)), (.int (nar .boolean f1))] := AA12
      have N12 := Fr.snoc X12 NJ65_11 g_b2
      refine own_via st12 ?_
      show OwnEnds p.tables e below _ (T12.setTop (mkF m 66 #[.val (.ref a0), .val (.ref a1), .val (.ref b2), .val (.int (1 : Int32)), .val (.int (u1 / (8 : Int32)))] []))
      refine own_via (fun t k => XS.iinc X12.here hx rfl (hb hby d6_66) rfl (l' := #[.val (.ref a0), .val (.ref a1), .val (.ref b2), .val (.int (2 : Int32)), .val (.int (u1 / (8 : Int32)))]) rfl k) ?_
      show OwnEnds p.tables e below _ (T12.setTop (mkF m 69 #[.val (.ref a0), .val (.ref a1), .val (.ref b2), .val (.int (2 : Int32)), .val (.int (u1 / (8 : Int32)))] []))
      refine own_via (fun t k => XS.goto X12.here hx rfl (pc0 := 69) (pc' := 10) rfl (hb hby d6_69) (by decide) (by decide) k) ?_
      show OwnEnds p.tables e below _ (T12.setTop (mkF m 10 #[.val (.ref a0), .val (.ref a1), .val (.ref b2), .val (.int (2 : Int32)), .val (.int (u1 / (8 : Int32)))] []))
      refine own_via (fun t k => XS.iloadN X12.here hx rfl (hb hby d6_10) rfl k) ?_
      show OwnEnds p.tables e below _ (T12.setTop (mkF m 11 #[.val (.ref a0), .val (.ref a1), .val (.ref b2), .val (.int (2 : Int32)), .val (.int (u1 / (8 : Int32)))] [(.int (2 : Int32))]))
      refine own_via (fun t k => XS.aloadN X12.here hx rfl (hb hby d6_11) rfl rfl k) ?_
      show OwnEnds p.tables e below _ (T12.setTop (mkF m 12 #[.val (.ref a0), .val (.ref a1), .val (.ref b2), .val (.int (2 : Int32)), .val (.int (u1 / (8 : Int32)))] [(.ref a0), (.int (2 : Int32))]))
      obtain ⟨T13, X13, e13, st13⟩ := getF X12 hx hZ hown (host := "") (Or.inl (hw _ (List.mem_of_getElem? (i := 26) rfl))) Via.refl e12 F_pos (g := (mkF m 12 #[.val (.ref a0), .val (.ref a1), .val (.ref b2), .val (.int (2 : Int32)), .val (.int (u1 / (8 : Int32)))] [(.ref a0), (.int (2 : Int32))])) rfl rfl (hb hby d6_12)
      refine own_via st13 ?_
      show OwnEnds p.tables e below _ (T13.setTop (mkF m 15 #[.val (.ref a0), .val (.ref a1), .val (.ref b2), .val (.int (2 : Int32)), .val (.int (u1 / (8 : Int32)))] [(.ref pos), (.int (2 : Int32))]))
      refine own_via (own_len X13 hx hZ e13 A_pos (z := (2 : Int32)) rfl (g := (mkF m 15 #[.val (.ref a0), .val (.ref a1), .val (.ref b2), .val (.int (2 : Int32)), .val (.int (u1 / (8 : Int32)))] [(.ref pos), (.int (2 : Int32))])) rfl rfl (hb hby d6_15)) ?_
      show OwnEnds p.tables e below _ (T13.setTop (mkF m 16 #[.val (.ref a0), .val (.ref a1), .val (.ref b2), .val (.int (2 : Int32)), .val (.int (u1 / (8 : Int32)))] [(.int (2 : Int32)), (.int (2 : Int32))]))
      have hc16_14 : ¬ ((2 : Int32) < (2 : Int32)) := by decide
      refine own_via (fun t k => XS.icmpYes X13.here hx rfl (pc0 := 16) (pc' := 72) rfl (hb hby d6_16) rfl (flt hc16_14).2.1 (by decide) (by decide) k) ?_
      show OwnEnds p.tables e below _ (T13.setTop (mkF m 72 #[.val (.ref a0), .val (.ref a1), .val (.ref b2), .val (.int (2 : Int32)), .val (.int (u1 / (8 : Int32)))] []))
      refine own_via (fun t k => XS.aloadN X13.here hx rfl (hb hby d6_72) rfl rfl k) ?_
      show OwnEnds p.tables e below _ (T13.setTop (mkF m 73 #[.val (.ref a0), .val (.ref a1), .val (.ref b2), .val (.int (2 : Int32)), .val (.int (u1 / (8 : Int32)))] [(.ref b2)]))
      have hf0 : f0 = own_f u0 nn bits := h_f0
      have hf1 : f1 = own_f u1 nn bits := h_f1
      rw [hf0, hf1] at A_b2
      refine own_retA X13 hx Bd.returns rfl rfl hlk (hb hby d6_73) ?_ (by decide) (by decide)
      rw [e13]
      exact ⟨b2, rfl, N12, K0, sz_b2, A_b2⟩
    by_cases hc36_15 : (u1 / (8 : Int32)) < nn
    · skip
      refine own_via (fun t k => XS.icmpNo X10.here hx rfl (hb hby d6_36) rfl (tlt hc36_15).2.1 k) ?_
      show OwnEnds p.tables e below _ (T10.setTop (mkF m 39 #[.val (.ref a0), .val (.ref a1), .val (.ref b2), .val (.int (1 : Int32)), .val (.int (u1 / (8 : Int32)))] [(.int (1 : Int32)), (.ref b2)]))
      refine own_via (fun t k => XS.aloadN X10.here hx rfl (hb hby d6_39) rfl rfl k) ?_
      show OwnEnds p.tables e below _ (T10.setTop (mkF m 40 #[.val (.ref a0), .val (.ref a1), .val (.ref b2), .val (.int (1 : Int32)), .val (.int (u1 / (8 : Int32)))] [(.ref a1), (.int (1 : Int32)), (.ref b2)]))
      refine own_via (fun t k => XS.iload X10.here hx rfl (hb hby d6_40) rfl k) ?_
      show OwnEnds p.tables e below _ (T10.setTop (mkF m 42 #[.val (.ref a0), .val (.ref a1), .val (.ref b2), .val (.int (1 : Int32)), .val (.int (u1 / (8 : Int32)))] [(.int (u1 / (8 : Int32))), (.ref a1), (.int (1 : Int32)), (.ref b2)]))
      refine own_via (own_ldB X10 hx hZ e10 A_a1 (v := (.int (own_by bits (u1 / 8).toNatClampNeg))) ((u1 / 8).toNatClampNeg) (own_kd hu1 hn hc36_15).1 (own_bat bits (own_kd hu1 hn hc36_15).2) (g := (mkF m 42 #[.val (.ref a0), .val (.ref a1), .val (.ref b2), .val (.int (1 : Int32)), .val (.int (u1 / (8 : Int32)))] [(.int (u1 / (8 : Int32))), (.ref a1), (.int (1 : Int32)), (.ref b2)])) rfl rfl (hb hby d6_42)) ?_
      show OwnEnds p.tables e below _ (T10.setTop (mkF m 43 #[.val (.ref a0), .val (.ref a1), .val (.ref b2), .val (.int (1 : Int32)), .val (.int (u1 / (8 : Int32)))] [(.int (own_by bits (u1 / 8).toNatClampNeg)), (.int (1 : Int32)), (.ref b2)]))
      refine own_via (fun t k => XS.sipush X10.here hx rfl (hb hby d6_43) k) ?_
      show OwnEnds p.tables e below _ (T10.setTop (mkF m 46 #[.val (.ref a0), .val (.ref a1), .val (.ref b2), .val (.int (1 : Int32)), .val (.int (u1 / (8 : Int32)))] [(.int (128 : Int32)), (.int (own_by bits (u1 / 8).toNatClampNeg)), (.int (1 : Int32)), (.ref b2)]))
      refine own_via (fun t k => XS.aloadN X10.here hx rfl (hb hby d6_46) rfl rfl k) ?_
      show OwnEnds p.tables e below _ (T10.setTop (mkF m 47 #[.val (.ref a0), .val (.ref a1), .val (.ref b2), .val (.int (1 : Int32)), .val (.int (u1 / (8 : Int32)))] [(.ref a0), (.int (128 : Int32)), (.int (own_by bits (u1 / 8).toNatClampNeg)), (.int (1 : Int32)), (.ref b2)]))
      obtain ⟨T16, X16, e16, st16⟩ := getF X10 hx hZ hown (host := "") (Or.inl (hw _ (List.mem_of_getElem? (i := 26) rfl))) Via.refl e10 F_pos (g := (mkF m 47 #[.val (.ref a0), .val (.ref a1), .val (.ref b2), .val (.int (1 : Int32)), .val (.int (u1 / (8 : Int32)))] [(.ref a0), (.int (128 : Int32)), (.int (own_by bits (u1 / 8).toNatClampNeg)), (.int (1 : Int32)), (.ref b2)])) rfl rfl (hb hby d6_47)
      refine own_via st16 ?_
      show OwnEnds p.tables e below _ (T16.setTop (mkF m 50 #[.val (.ref a0), .val (.ref a1), .val (.ref b2), .val (.int (1 : Int32)), .val (.int (u1 / (8 : Int32)))] [(.ref pos), (.int (128 : Int32)), (.int (own_by bits (u1 / 8).toNatClampNeg)), (.int (1 : Int32)), (.ref b2)]))
      refine own_via (fun t k => XS.iloadN X16.here hx rfl (hb hby d6_50) rfl k) ?_
      show OwnEnds p.tables e below _ (T16.setTop (mkF m 51 #[.val (.ref a0), .val (.ref a1), .val (.ref b2), .val (.int (1 : Int32)), .val (.int (u1 / (8 : Int32)))] [(.int (1 : Int32)), (.ref pos), (.int (128 : Int32)), (.int (own_by bits (u1 / 8).toNatClampNeg)), (.int (1 : Int32)), (.ref b2)]))
      refine own_via (own_ldI X16 hx hZ e16 A_pos (v := (.int u1)) 1 rfl rfl (g := (mkF m 51 #[.val (.ref a0), .val (.ref a1), .val (.ref b2), .val (.int (1 : Int32)), .val (.int (u1 / (8 : Int32)))] [(.int (1 : Int32)), (.ref pos), (.int (128 : Int32)), (.int (own_by bits (u1 / 8).toNatClampNeg)), (.int (1 : Int32)), (.ref b2)])) rfl rfl (hb hby d6_51)) ?_
      show OwnEnds p.tables e below _ (T16.setTop (mkF m 52 #[.val (.ref a0), .val (.ref a1), .val (.ref b2), .val (.int (1 : Int32)), .val (.int (u1 / (8 : Int32)))] [(.int u1), (.int (128 : Int32)), (.int (own_by bits (u1 / 8).toNatClampNeg)), (.int (1 : Int32)), (.ref b2)]))
      refine own_via (fun t k => XS.bipush X16.here hx rfl (hb hby d6_52) k) ?_
      show OwnEnds p.tables e below _ (T16.setTop (mkF m 54 #[.val (.ref a0), .val (.ref a1), .val (.ref b2), .val (.int (1 : Int32)), .val (.int (u1 / (8 : Int32)))] [(.int (8 : Int32)), (.int u1), (.int (128 : Int32)), (.int (own_by bits (u1 / 8).toNatClampNeg)), (.int (1 : Int32)), (.ref b2)]))
      refine own_via (fun t k => Jvm.RoadKit.iremM X16 hx rfl (hb hby d6_54) rfl (by decide) k) ?_
      show OwnEnds p.tables e below _ (T16.setTop (mkF m 55 #[.val (.ref a0), .val (.ref a1), .val (.ref b2), .val (.int (1 : Int32)), .val (.int (u1 / (8 : Int32)))] [(.int (u1 % (8 : Int32))), (.int (128 : Int32)), (.int (own_by bits (u1 / 8).toNatClampNeg)), (.int (1 : Int32)), (.ref b2)]))
      refine own_via (fun t k => XS.iushr X16.here hx rfl (hb hby d6_55) rfl k) ?_
      show OwnEnds p.tables e below _ (T16.setTop (mkF m 56 #[.val (.ref a0), .val (.ref a1), .val (.ref b2), .val (.int (1 : Int32)), .val (.int (u1 / (8 : Int32)))] [(.int (((128 : Int32).toUInt32 >>> ((u1 % (8 : Int32)) &&& 31).toUInt32).toInt32)), (.int (own_by bits (u1 / 8).toNatClampNeg)), (.int (1 : Int32)), (.ref b2)]))
      refine own_via (fun t k => XS.iand X16.here hx rfl (hb hby d6_56) rfl k) ?_
      show OwnEnds p.tables e below _ (T16.setTop (mkF m 57 #[.val (.ref a0), .val (.ref a1), .val (.ref b2), .val (.int (1 : Int32)), .val (.int (u1 / (8 : Int32)))] [(.int ((own_by bits (u1 / 8).toNatClampNeg) &&& (((128 : Int32).toUInt32 >>> ((u1 % (8 : Int32)) &&& 31).toUInt32).toInt32))), (.int (1 : Int32)), (.ref b2)]))
      by_cases hc57_17 : ((own_by bits (u1 / 8).toNatClampNeg) &&& (((128 : Int32).toUInt32 >>> ((u1 % (8 : Int32)) &&& 31).toUInt32).toInt32)) = (0 : Int32)
      · skip
        refine own_via (fun t k => XS.ifYes X16.here hx rfl (pc0 := 57) (pc' := 64) rfl (hb hby d6_57) rfl ((if0 _ _).trans (teq hc57_17).1) (by decide) (by decide) k) ?_
        show OwnEnds p.tables e below _ (T16.setTop (mkF m 64 #[.val (.ref a0), .val (.ref a1), .val (.ref b2), .val (.int (1 : Int32)), .val (.int (u1 / (8 : Int32)))] [(.int (1 : Int32)), (.ref b2)]))
        refine own_via (fun t k => XS.iconst X16.here hx rfl (hb hby d6_64) k) ?_
        show OwnEnds p.tables e below _ (T16.setTop (mkF m 65 #[.val (.ref a0), .val (.ref a1), .val (.ref b2), .val (.int (1 : Int32)), .val (.int (u1 / (8 : Int32)))] [(.int (0 : Int32)), (.int (1 : Int32)), (.ref b2)]))
        exact J65_11 _ _ _ (own_wide X16 (by decide) (by decide)) e16 N7 (by simp only [if_pos hc36_15, if_pos hc57_17])
      · skip
        refine own_via (fun t k => XS.ifNo X16.here hx rfl (hb hby d6_57) rfl ((if0 _ _).trans (feq hc57_17).1) k) ?_
        show OwnEnds p.tables e below _ (T16.setTop (mkF m 60 #[.val (.ref a0), .val (.ref a1), .val (.ref b2), .val (.int (1 : Int32)), .val (.int (u1 / (8 : Int32)))] [(.int (1 : Int32)), (.ref b2)]))
        refine own_via (fun t k => XS.iconst X16.here hx rfl (hb hby d6_60) k) ?_
        show OwnEnds p.tables e below _ (T16.setTop (mkF m 61 #[.val (.ref a0), .val (.ref a1), .val (.ref b2), .val (.int (1 : Int32)), .val (.int (u1 / (8 : Int32)))] [(.int (1 : Int32)), (.int (1 : Int32)), (.ref b2)]))
        refine own_via (fun t k => XS.goto X16.here hx rfl (pc0 := 61) (pc' := 65) rfl (hb hby d6_61) (by decide) (by decide) k) ?_
        show OwnEnds p.tables e below _ (T16.setTop (mkF m 65 #[.val (.ref a0), .val (.ref a1), .val (.ref b2), .val (.int (1 : Int32)), .val (.int (u1 / (8 : Int32)))] [(.int (1 : Int32)), (.int (1 : Int32)), (.ref b2)]))
        exact J65_11 _ _ _ (own_wide X16 (by decide) (by decide)) e16 N7 (by simp only [if_pos hc36_15, if_neg hc57_17])
    · skip
      refine own_via (fun t k => XS.icmpYes X10.here hx rfl (pc0 := 36) (pc' := 64) rfl (hb hby d6_36) rfl (flt hc36_15).2.1 (by decide) (by decide) k) ?_
      show OwnEnds p.tables e below _ (T10.setTop (mkF m 64 #[.val (.ref a0), .val (.ref a1), .val (.ref b2), .val (.int (1 : Int32)), .val (.int (u1 / (8 : Int32)))] [(.int (1 : Int32)), (.ref b2)]))
      refine own_via (fun t k => XS.iconst X10.here hx rfl (hb hby d6_64) k) ?_
      show OwnEnds p.tables e below _ (T10.setTop (mkF m 65 #[.val (.ref a0), .val (.ref a1), .val (.ref b2), .val (.int (1 : Int32)), .val (.int (u1 / (8 : Int32)))] [(.int (0 : Int32)), (.int (1 : Int32)), (.ref b2)]))
      exact J65_11 _ _ _ (own_wide X10 (by decide) (by decide)) e10 N7 (by simp only [if_neg hc36_15])
  by_cases hc36_18 : (u0 / (8 : Int32)) < nn
  · skip
    refine own_via (fun t k => XS.icmpNo X5.here hx rfl (hb hby d6_36) rfl (tlt hc36_18).2.1 k) ?_
    show OwnEnds p.tables e below _ (T5.setTop (mkF m 39 #[.val (.ref a0), .val (.ref a1), .val (.ref b2), .val (.int (0 : Int32)), .val (.int (u0 / (8 : Int32)))] [(.int (0 : Int32)), (.ref b2)]))
    refine own_via (fun t k => XS.aloadN X5.here hx rfl (hb hby d6_39) rfl rfl k) ?_
    show OwnEnds p.tables e below _ (T5.setTop (mkF m 40 #[.val (.ref a0), .val (.ref a1), .val (.ref b2), .val (.int (0 : Int32)), .val (.int (u0 / (8 : Int32)))] [(.ref a1), (.int (0 : Int32)), (.ref b2)]))
    refine own_via (fun t k => XS.iload X5.here hx rfl (hb hby d6_40) rfl k) ?_
    show OwnEnds p.tables e below _ (T5.setTop (mkF m 42 #[.val (.ref a0), .val (.ref a1), .val (.ref b2), .val (.int (0 : Int32)), .val (.int (u0 / (8 : Int32)))] [(.int (u0 / (8 : Int32))), (.ref a1), (.int (0 : Int32)), (.ref b2)]))
    refine own_via (own_ldB X5 hx hZ e5 A_a1 (v := (.int (own_by bits (u0 / 8).toNatClampNeg))) ((u0 / 8).toNatClampNeg) (own_kd hu0 hn hc36_18).1 (own_bat bits (own_kd hu0 hn hc36_18).2) (g := (mkF m 42 #[.val (.ref a0), .val (.ref a1), .val (.ref b2), .val (.int (0 : Int32)), .val (.int (u0 / (8 : Int32)))] [(.int (u0 / (8 : Int32))), (.ref a1), (.int (0 : Int32)), (.ref b2)])) rfl rfl (hb hby d6_42)) ?_
    show OwnEnds p.tables e below _ (T5.setTop (mkF m 43 #[.val (.ref a0), .val (.ref a1), .val (.ref b2), .val (.int (0 : Int32)), .val (.int (u0 / (8 : Int32)))] [(.int (own_by bits (u0 / 8).toNatClampNeg)), (.int (0 : Int32)), (.ref b2)]))
    refine own_via (fun t k => XS.sipush X5.here hx rfl (hb hby d6_43) k) ?_
    show OwnEnds p.tables e below _ (T5.setTop (mkF m 46 #[.val (.ref a0), .val (.ref a1), .val (.ref b2), .val (.int (0 : Int32)), .val (.int (u0 / (8 : Int32)))] [(.int (128 : Int32)), (.int (own_by bits (u0 / 8).toNatClampNeg)), (.int (0 : Int32)), (.ref b2)]))
    refine own_via (fun t k => XS.aloadN X5.here hx rfl (hb hby d6_46) rfl rfl k) ?_
    show OwnEnds p.tables e below _ (T5.setTop (mkF m 47 #[.val (.ref a0), .val (.ref a1), .val (.ref b2), .val (.int (0 : Int32)), .val (.int (u0 / (8 : Int32)))] [(.ref a0), (.int (128 : Int32)), (.int (own_by bits (u0 / 8).toNatClampNeg)), (.int (0 : Int32)), (.ref b2)]))
    obtain ⟨T19, X19, e19, st19⟩ := getF X5 hx hZ hown (host := "") (Or.inl (hw _ (List.mem_of_getElem? (i := 26) rfl))) Via.refl e5 F_pos (g := (mkF m 47 #[.val (.ref a0), .val (.ref a1), .val (.ref b2), .val (.int (0 : Int32)), .val (.int (u0 / (8 : Int32)))] [(.ref a0), (.int (128 : Int32)), (.int (own_by bits (u0 / 8).toNatClampNeg)), (.int (0 : Int32)), (.ref b2)])) rfl rfl (hb hby d6_47)
    refine own_via st19 ?_
    show OwnEnds p.tables e below _ (T19.setTop (mkF m 50 #[.val (.ref a0), .val (.ref a1), .val (.ref b2), .val (.int (0 : Int32)), .val (.int (u0 / (8 : Int32)))] [(.ref pos), (.int (128 : Int32)), (.int (own_by bits (u0 / 8).toNatClampNeg)), (.int (0 : Int32)), (.ref b2)]))
    refine own_via (fun t k => XS.iloadN X19.here hx rfl (hb hby d6_50) rfl k) ?_
    show OwnEnds p.tables e below _ (T19.setTop (mkF m 51 #[.val (.ref a0), .val (.ref a1), .val (.ref b2), .val (.int (0 : Int32)), .val (.int (u0 / (8 : Int32)))] [(.int (0 : Int32)), (.ref pos), (.int (128 : Int32)), (.int (own_by bits (u0 / 8).toNatClampNeg)), (.int (0 : Int32)), (.ref b2)]))
    refine own_via (own_ldI X19 hx hZ e19 A_pos (v := (.int u0)) 0 rfl rfl (g := (mkF m 51 #[.val (.ref a0), .val (.ref a1), .val (.ref b2), .val (.int (0 : Int32)), .val (.int (u0 / (8 : Int32)))] [(.int (0 : Int32)), (.ref pos), (.int (128 : Int32)), (.int (own_by bits (u0 / 8).toNatClampNeg)), (.int (0 : Int32)), (.ref b2)])) rfl rfl (hb hby d6_51)) ?_
    show OwnEnds p.tables e below _ (T19.setTop (mkF m 52 #[.val (.ref a0), .val (.ref a1), .val (.ref b2), .val (.int (0 : Int32)), .val (.int (u0 / (8 : Int32)))] [(.int u0), (.int (128 : Int32)), (.int (own_by bits (u0 / 8).toNatClampNeg)), (.int (0 : Int32)), (.ref b2)]))
    refine own_via (fun t k => XS.bipush X19.here hx rfl (hb hby d6_52) k) ?_
    show OwnEnds p.tables e below _ (T19.setTop (mkF m 54 #[.val (.ref a0), .val (.ref a1), .val (.ref b2), .val (.int (0 : Int32)), .val (.int (u0 / (8 : Int32)))] [(.int (8 : Int32)), (.int u0), (.int (128 : Int32)), (.int (own_by bits (u0 / 8).toNatClampNeg)), (.int (0 : Int32)), (.ref b2)]))
    refine own_via (fun t k => Jvm.RoadKit.iremM X19 hx rfl (hb hby d6_54) rfl (by decide) k) ?_
    show OwnEnds p.tables e below _ (T19.setTop (mkF m 55 #[.val (.ref a0), .val (.ref a1), .val (.ref b2), .val (.int (0 : Int32)), .val (.int (u0 / (8 : Int32)))] [(.int (u0 % (8 : Int32))), (.int (128 : Int32)), (.int (own_by bits (u0 / 8).toNatClampNeg)), (.int (0 : Int32)), (.ref b2)]))
    refine own_via (fun t k => XS.iushr X19.here hx rfl (hb hby d6_55) rfl k) ?_
    show OwnEnds p.tables e below _ (T19.setTop (mkF m 56 #[.val (.ref a0), .val (.ref a1), .val (.ref b2), .val (.int (0 : Int32)), .val (.int (u0 / (8 : Int32)))] [(.int (((128 : Int32).toUInt32 >>> ((u0 % (8 : Int32)) &&& 31).toUInt32).toInt32)), (.int (own_by bits (u0 / 8).toNatClampNeg)), (.int (0 : Int32)), (.ref b2)]))
    refine own_via (fun t k => XS.iand X19.here hx rfl (hb hby d6_56) rfl k) ?_
    show OwnEnds p.tables e below _ (T19.setTop (mkF m 57 #[.val (.ref a0), .val (.ref a1), .val (.ref b2), .val (.int (0 : Int32)), .val (.int (u0 / (8 : Int32)))] [(.int ((own_by bits (u0 / 8).toNatClampNeg) &&& (((128 : Int32).toUInt32 >>> ((u0 % (8 : Int32)) &&& 31).toUInt32).toInt32))), (.int (0 : Int32)), (.ref b2)]))
    by_cases hc57_20 : ((own_by bits (u0 / 8).toNatClampNeg) &&& (((128 : Int32).toUInt32 >>> ((u0 % (8 : Int32)) &&& 31).toUInt32).toInt32)) = (0 : Int32)
    · skip
      refine own_via (fun t k => XS.ifYes X19.here hx rfl (pc0 := 57) (pc' := 64) rfl (hb hby d6_57) rfl ((if0 _ _).trans (teq hc57_20).1) (by decide) (by decide) k) ?_
      show OwnEnds p.tables e below _ (T19.setTop (mkF m 64 #[.val (.ref a0), .val (.ref a1), .val (.ref b2), .val (.int (0 : Int32)), .val (.int (u0 / (8 : Int32)))] [(.int (0 : Int32)), (.ref b2)]))
      refine own_via (fun t k => XS.iconst X19.here hx rfl (hb hby d6_64) k) ?_
      show OwnEnds p.tables e below _ (T19.setTop (mkF m 65 #[.val (.ref a0), .val (.ref a1), .val (.ref b2), .val (.int (0 : Int32)), .val (.int (u0 / (8 : Int32)))] [(.int (0 : Int32)), (.int (0 : Int32)), (.ref b2)]))
      exact J65_6 _ _ _ (own_wide X19 (by decide) (by decide)) e19 N0 (by simp only [if_pos hc36_18, if_pos hc57_20])
    · skip
      refine own_via (fun t k => XS.ifNo X19.here hx rfl (hb hby d6_57) rfl ((if0 _ _).trans (feq hc57_20).1) k) ?_
      show OwnEnds p.tables e below _ (T19.setTop (mkF m 60 #[.val (.ref a0), .val (.ref a1), .val (.ref b2), .val (.int (0 : Int32)), .val (.int (u0 / (8 : Int32)))] [(.int (0 : Int32)), (.ref b2)]))
      refine own_via (fun t k => XS.iconst X19.here hx rfl (hb hby d6_60) k) ?_
      show OwnEnds p.tables e below _ (T19.setTop (mkF m 61 #[.val (.ref a0), .val (.ref a1), .val (.ref b2), .val (.int (0 : Int32)), .val (.int (u0 / (8 : Int32)))] [(.int (1 : Int32)), (.int (0 : Int32)), (.ref b2)]))
      refine own_via (fun t k => XS.goto X19.here hx rfl (pc0 := 61) (pc' := 65) rfl (hb hby d6_61) (by decide) (by decide) k) ?_
      show OwnEnds p.tables e below _ (T19.setTop (mkF m 65 #[.val (.ref a0), .val (.ref a1), .val (.ref b2), .val (.int (0 : Int32)), .val (.int (u0 / (8 : Int32)))] [(.int (1 : Int32)), (.int (0 : Int32)), (.ref b2)]))
      exact J65_6 _ _ _ (own_wide X19 (by decide) (by decide)) e19 N0 (by simp only [if_pos hc36_18, if_neg hc57_20])
  · skip
    refine own_via (fun t k => XS.icmpYes X5.here hx rfl (pc0 := 36) (pc' := 64) rfl (hb hby d6_36) rfl (flt hc36_18).2.1 (by decide) (by decide) k) ?_
    show OwnEnds p.tables e below _ (T5.setTop (mkF m 64 #[.val (.ref a0), .val (.ref a1), .val (.ref b2), .val (.int (0 : Int32)), .val (.int (u0 / (8 : Int32)))] [(.int (0 : Int32)), (.ref b2)]))
    refine own_via (fun t k => XS.iconst X5.here hx rfl (hb hby d6_64) k) ?_
    show OwnEnds p.tables e below _ (T5.setTop (mkF m 65 #[.val (.ref a0), .val (.ref a1), .val (.ref b2), .val (.int (0 : Int32)), .val (.int (u0 / (8 : Int32)))] [(.int (0 : Int32)), (.int (0 : Int32)), (.ref b2)]))
    exact J65_6 _ _ _ (own_wide X5 (by decide) (by decide)) e5 N0 (by simp only [if_neg hc36_18])
theorem d7_0 : decode method_3_code 0 = .ok (.iload_n 0, 1) := by decide +kernel
theorem d7_1 : decode method_3_code 1 = .ok (.iconst 3, 1) := by decide +kernel
theorem d7_2 : decode method_3_code 2 = .ok (.iushr, 1) := by decide +kernel
theorem d7_3 : decode method_3_code 3 = .ok (.istore_n 3, 1) := by decide +kernel
theorem d7_4 : decode method_3_code 4 = .ok (.iload_n 3, 1) := by decide +kernel
theorem d7_5 : decode method_3_code 5 = .ok (.iload_n 1, 1) := by decide +kernel
theorem d7_6 : decode method_3_code 6 = .ok (.if_icmp .lt 5, 3) := by decide +kernel
theorem d7_9 : decode method_3_code 9 = .ok (.iconst 0, 1) := by decide +kernel
theorem d7_10 : decode method_3_code 10 = .ok (.ireturn, 1) := by decide +kernel
theorem d7_11 : decode method_3_code 11 = .ok (.iload_n 2, 1) := by decide +kernel
theorem d7_12 : decode method_3_code 12 = .ok (.bipush 8, 2) := by decide +kernel
theorem d7_14 : decode method_3_code 14 = .ok (.iload_n 3, 1) := by decide +kernel
theorem d7_15 : decode method_3_code 15 = .ok (.imul, 1) := by decide +kernel
theorem d7_16 : decode method_3_code 16 = .ok (.bipush 7, 2) := by decide +kernel
theorem d7_18 : decode method_3_code 18 = .ok (.iadd, 1) := by decide +kernel
theorem d7_19 : decode method_3_code 19 = .ok (.iload_n 0, 1) := by decide +kernel
theorem d7_20 : decode method_3_code 20 = .ok (.bipush 7, 2) := by decide +kernel
theorem d7_22 : decode method_3_code 22 = .ok (.iand, 1) := by decide +kernel
theorem d7_23 : decode method_3_code 23 = .ok (.isub, 1) := by decide +kernel
theorem d7_24 : decode method_3_code 24 = .ok (.iushr, 1) := by decide +kernel
theorem d7_25 : decode method_3_code 25 = .ok (.iconst 1, 1) := by decide +kernel
theorem d7_26 : decode method_3_code 26 = .ok (.iand, 1) := by decide +kernel
theorem d7_27 : decode method_3_code 27 = .ok (.ifCond .eq 7, 3) := by decide +kernel
theorem d7_30 : decode method_3_code 30 = .ok (.iconst 1, 1) := by decide +kernel
theorem d7_31 : decode method_3_code 31 = .ok (.goto 4, 3) := by decide +kernel
theorem d7_34 : decode method_3_code 34 = .ok (.iconst 0, 1) := by decide +kernel
theorem d7_35 : decode method_3_code 35 = .ok (.ireturn, 1) := by decide +kernel
theorem ef_7 (m : MethodId) (p0 : Int32) (p1 : Int32) (p2 : Int32) : entryFrame m #[(.int p0), (.int p1), (.int p2)] 4 = mkF m 0 #[.val (.int p0), .val (.int p1), .val (.int p2), .unset] [] := by first | (simp [entryFrame, mkF, argsToLocals, Value.category]; done) | rfl
def Q7 (Z : State) (p0 : Int32) (p1 : Int32) (p2 : Int32) (h0 : Heap) (n0 : Nat) (v : Option Value) (h : Heap) (L : List Loc) : Prop := v = some (.int (own_ref p0 p1 p2)) ∧ Fr n0 L ∧ h = h0
set_option maxRecDepth 65536 in
set_option maxHeartbeats 40000000 in
theorem rm7 (l : Launch) (Z : State) (aw : Array Value) (hw : ∀ d ∈ tables_1, d.before aw Z = true) (ws : List Jvm.Cond) (p0 : Int32) (p1 : Int32) (p2 : Int32) (h0 : Heap) (n0 : Nat) (Z0 : n0 ≤ h0.size) :
    MetFree l (⟨"com/example/crowd_cache/crowdcache/core/BucketFoundInPinLaw", "ref", "(III)Z"⟩ : MethodName) (head1 (Jvm.Cond.code (⟨"com/example/crowd_cache/crowdcache/core/BucketFoundInPinLaw", "ref", "(III)Z"⟩ : MethodName) method_3_code 4 (some .boolean) :: ws) ({ frames := 0, cells := 0, slots := 0, locals := 0 } : Room)) (fun a U => a = #[(.int p0), (.int p1), (.int p2)] ∧ Z.Warmed39 U.vm ∧ U.heap = h0) (fun _ _ _ _ _ => True) (fun _ U o U' => ∃ v L, o = .returned v ∧ Q7 Z p0 p1 p2 h0 n0 v U'.heap L ∧ FrameEnd U o U' L ({ frames := 0, cells := 0, slots := 0, locals := 0 } : Room).cells ({ frames := 0, cells := 0, slots := 0, locals := 0 } : Room).slots) := by
  refine MetFree.of_bodySF (plainFor_of_name pn_0) hisR ?_
  intro p e s m args below meth c s₁ Bd hml0 hP hK
  obtain ⟨rfl, hZ, hh⟩ := hP
  have hx := Bd.exec
  have hby := Bd.bytes
  have hml : c.maxLocals = 4 := hml0
  have hown : s.vm.findClass "com/example/crowd_cache/crowdcache/core/BucketFoundInPinLaw" = some m.cls := findClass_of_methodNamed Bd.named
  have hnm := (name_of_methodNamed Bd.named Bd.method).1
  have hlk : meth.locks = false := Bd.notSynchronized
  have X0 : Stand p l e ({ frames := 0, cells := 0, slots := 0, locals := 0 } : Room) s m #[(.int p0), (.int p1), (.int p2)] below meth c s₁ [] 0 0 := Stand.of_body Bd
  have e0 : s₁.heap = h0 := by rw [← hh, Bd.state]; rfl
  have N0 := Fr.nil n0
  show OwnEnds p.tables e below (OwnQ s ({ frames := 0, cells := 0, slots := 0, locals := 0 } : Room).cells ({ frames := 0, cells := 0, slots := 0, locals := 0 } : Room).slots (Q7 Z p0 p1 p2 h0 n0)) (s₁.setTop (entryFrame m #[(.int p0), (.int p1), (.int p2)] 4))
  refine own_via (fun t k => castTop (ef_7 m p0 p1 p2) k) ?_
  show OwnEnds p.tables e below _ (s₁.setTop (mkF m 0 #[.val (.int p0), .val (.int p1), .val (.int p2), .unset] []))
  refine own_via (fun t k => XS.iloadN X0.here hx rfl (hb hby d7_0) rfl k) ?_
  show OwnEnds p.tables e below _ (s₁.setTop (mkF m 1 #[.val (.int p0), .val (.int p1), .val (.int p2), .unset] [(.int p0)]))
  refine own_via (fun t k => XS.iconst X0.here hx rfl (hb hby d7_1) k) ?_
  show OwnEnds p.tables e below _ (s₁.setTop (mkF m 2 #[.val (.int p0), .val (.int p1), .val (.int p2), .unset] [(.int (3 : Int32)), (.int p0)]))
  refine own_via (fun t k => XS.iushr X0.here hx rfl (hb hby d7_2) rfl k) ?_
  show OwnEnds p.tables e below _ (s₁.setTop (mkF m 3 #[.val (.int p0), .val (.int p1), .val (.int p2), .unset] [(.int ((p0.toUInt32 >>> ((3 : Int32) &&& 31).toUInt32).toInt32))]))
  refine own_via (fun t k => XS.istoreN X0.here hx rfl (hb hby d7_3) rfl (l' := #[.val (.int p0), .val (.int p1), .val (.int p2), .val (.int ((p0.toUInt32 >>> ((3 : Int32) &&& 31).toUInt32).toInt32))]) rfl k) ?_
  show OwnEnds p.tables e below _ (s₁.setTop (mkF m 4 #[.val (.int p0), .val (.int p1), .val (.int p2), .val (.int ((p0.toUInt32 >>> ((3 : Int32) &&& 31).toUInt32).toInt32))] []))
  refine own_via (fun t k => XS.iloadN X0.here hx rfl (hb hby d7_4) rfl k) ?_
  show OwnEnds p.tables e below _ (s₁.setTop (mkF m 5 #[.val (.int p0), .val (.int p1), .val (.int p2), .val (.int ((p0.toUInt32 >>> ((3 : Int32) &&& 31).toUInt32).toInt32))] [(.int ((p0.toUInt32 >>> ((3 : Int32) &&& 31).toUInt32).toInt32))]))
  refine own_via (fun t k => XS.iloadN X0.here hx rfl (hb hby d7_5) rfl k) ?_
  show OwnEnds p.tables e below _ (s₁.setTop (mkF m 6 #[.val (.int p0), .val (.int p1), .val (.int p2), .val (.int ((p0.toUInt32 >>> ((3 : Int32) &&& 31).toUInt32).toInt32))] [(.int p1), (.int ((p0.toUInt32 >>> ((3 : Int32) &&& 31).toUInt32).toInt32))]))
  by_cases hc6_1 : ((p0.toUInt32 >>> ((3 : Int32) &&& 31).toUInt32).toInt32) < p1
  · skip
    refine own_via (fun t k => XS.icmpYes X0.here hx rfl (pc0 := 6) (pc' := 11) rfl (hb hby d7_6) rfl (tlt hc6_1).1 (by decide) (by decide) k) ?_
    show OwnEnds p.tables e below _ (s₁.setTop (mkF m 11 #[.val (.int p0), .val (.int p1), .val (.int p2), .val (.int ((p0.toUInt32 >>> ((3 : Int32) &&& 31).toUInt32).toInt32))] []))
    refine own_via (fun t k => XS.iloadN X0.here hx rfl (hb hby d7_11) rfl k) ?_
    show OwnEnds p.tables e below _ (s₁.setTop (mkF m 12 #[.val (.int p0), .val (.int p1), .val (.int p2), .val (.int ((p0.toUInt32 >>> ((3 : Int32) &&& 31).toUInt32).toInt32))] [(.int p2)]))
    refine own_via (fun t k => XS.bipush X0.here hx rfl (hb hby d7_12) k) ?_
    show OwnEnds p.tables e below _ (s₁.setTop (mkF m 14 #[.val (.int p0), .val (.int p1), .val (.int p2), .val (.int ((p0.toUInt32 >>> ((3 : Int32) &&& 31).toUInt32).toInt32))] [(.int (8 : Int32)), (.int p2)]))
    refine own_via (fun t k => XS.iloadN X0.here hx rfl (hb hby d7_14) rfl k) ?_
    show OwnEnds p.tables e below _ (s₁.setTop (mkF m 15 #[.val (.int p0), .val (.int p1), .val (.int p2), .val (.int ((p0.toUInt32 >>> ((3 : Int32) &&& 31).toUInt32).toInt32))] [(.int ((p0.toUInt32 >>> ((3 : Int32) &&& 31).toUInt32).toInt32)), (.int (8 : Int32)), (.int p2)]))
    refine own_via (fun t k => XS.imul X0.here hx rfl (hb hby d7_15) rfl k) ?_
    show OwnEnds p.tables e below _ (s₁.setTop (mkF m 16 #[.val (.int p0), .val (.int p1), .val (.int p2), .val (.int ((p0.toUInt32 >>> ((3 : Int32) &&& 31).toUInt32).toInt32))] [(.int ((8 : Int32) * ((p0.toUInt32 >>> ((3 : Int32) &&& 31).toUInt32).toInt32))), (.int p2)]))
    refine own_via (fun t k => XS.bipush X0.here hx rfl (hb hby d7_16) k) ?_
    show OwnEnds p.tables e below _ (s₁.setTop (mkF m 18 #[.val (.int p0), .val (.int p1), .val (.int p2), .val (.int ((p0.toUInt32 >>> ((3 : Int32) &&& 31).toUInt32).toInt32))] [(.int (7 : Int32)), (.int ((8 : Int32) * ((p0.toUInt32 >>> ((3 : Int32) &&& 31).toUInt32).toInt32))), (.int p2)]))
    refine own_via (fun t k => XS.iadd X0.here hx rfl (hb hby d7_18) rfl k) ?_
    show OwnEnds p.tables e below _ (s₁.setTop (mkF m 19 #[.val (.int p0), .val (.int p1), .val (.int p2), .val (.int ((p0.toUInt32 >>> ((3 : Int32) &&& 31).toUInt32).toInt32))] [(.int (((8 : Int32) * ((p0.toUInt32 >>> ((3 : Int32) &&& 31).toUInt32).toInt32)) + (7 : Int32))), (.int p2)]))
    refine own_via (fun t k => XS.iloadN X0.here hx rfl (hb hby d7_19) rfl k) ?_
    show OwnEnds p.tables e below _ (s₁.setTop (mkF m 20 #[.val (.int p0), .val (.int p1), .val (.int p2), .val (.int ((p0.toUInt32 >>> ((3 : Int32) &&& 31).toUInt32).toInt32))] [(.int p0), (.int (((8 : Int32) * ((p0.toUInt32 >>> ((3 : Int32) &&& 31).toUInt32).toInt32)) + (7 : Int32))), (.int p2)]))
    refine own_via (fun t k => XS.bipush X0.here hx rfl (hb hby d7_20) k) ?_
    show OwnEnds p.tables e below _ (s₁.setTop (mkF m 22 #[.val (.int p0), .val (.int p1), .val (.int p2), .val (.int ((p0.toUInt32 >>> ((3 : Int32) &&& 31).toUInt32).toInt32))] [(.int (7 : Int32)), (.int p0), (.int (((8 : Int32) * ((p0.toUInt32 >>> ((3 : Int32) &&& 31).toUInt32).toInt32)) + (7 : Int32))), (.int p2)]))
    refine own_via (fun t k => XS.iand X0.here hx rfl (hb hby d7_22) rfl k) ?_
    show OwnEnds p.tables e below _ (s₁.setTop (mkF m 23 #[.val (.int p0), .val (.int p1), .val (.int p2), .val (.int ((p0.toUInt32 >>> ((3 : Int32) &&& 31).toUInt32).toInt32))] [(.int (p0 &&& (7 : Int32))), (.int (((8 : Int32) * ((p0.toUInt32 >>> ((3 : Int32) &&& 31).toUInt32).toInt32)) + (7 : Int32))), (.int p2)]))
    refine own_via (fun t k => XS.isub X0.here hx rfl (hb hby d7_23) rfl k) ?_
    show OwnEnds p.tables e below _ (s₁.setTop (mkF m 24 #[.val (.int p0), .val (.int p1), .val (.int p2), .val (.int ((p0.toUInt32 >>> ((3 : Int32) &&& 31).toUInt32).toInt32))] [(.int ((((8 : Int32) * ((p0.toUInt32 >>> ((3 : Int32) &&& 31).toUInt32).toInt32)) + (7 : Int32)) - (p0 &&& (7 : Int32)))), (.int p2)]))
    refine own_via (fun t k => XS.iushr X0.here hx rfl (hb hby d7_24) rfl k) ?_
    show OwnEnds p.tables e below _ (s₁.setTop (mkF m 25 #[.val (.int p0), .val (.int p1), .val (.int p2), .val (.int ((p0.toUInt32 >>> ((3 : Int32) &&& 31).toUInt32).toInt32))] [(.int ((p2.toUInt32 >>> (((((8 : Int32) * ((p0.toUInt32 >>> ((3 : Int32) &&& 31).toUInt32).toInt32)) + (7 : Int32)) - (p0 &&& (7 : Int32))) &&& 31).toUInt32).toInt32))]))
    refine own_via (fun t k => XS.iconst X0.here hx rfl (hb hby d7_25) k) ?_
    show OwnEnds p.tables e below _ (s₁.setTop (mkF m 26 #[.val (.int p0), .val (.int p1), .val (.int p2), .val (.int ((p0.toUInt32 >>> ((3 : Int32) &&& 31).toUInt32).toInt32))] [(.int (1 : Int32)), (.int ((p2.toUInt32 >>> (((((8 : Int32) * ((p0.toUInt32 >>> ((3 : Int32) &&& 31).toUInt32).toInt32)) + (7 : Int32)) - (p0 &&& (7 : Int32))) &&& 31).toUInt32).toInt32))]))
    refine own_via (fun t k => XS.iand X0.here hx rfl (hb hby d7_26) rfl k) ?_
    show OwnEnds p.tables e below _ (s₁.setTop (mkF m 27 #[.val (.int p0), .val (.int p1), .val (.int p2), .val (.int ((p0.toUInt32 >>> ((3 : Int32) &&& 31).toUInt32).toInt32))] [(.int (((p2.toUInt32 >>> (((((8 : Int32) * ((p0.toUInt32 >>> ((3 : Int32) &&& 31).toUInt32).toInt32)) + (7 : Int32)) - (p0 &&& (7 : Int32))) &&& 31).toUInt32).toInt32) &&& (1 : Int32)))]))
    by_cases hc27_2 : (((p2.toUInt32 >>> (((((8 : Int32) * ((p0.toUInt32 >>> ((3 : Int32) &&& 31).toUInt32).toInt32)) + (7 : Int32)) - (p0 &&& (7 : Int32))) &&& 31).toUInt32).toInt32) &&& (1 : Int32)) = (0 : Int32)
    · skip
      refine own_via (fun t k => XS.ifYes X0.here hx rfl (pc0 := 27) (pc' := 34) rfl (hb hby d7_27) rfl ((if0 _ _).trans (teq hc27_2).1) (by decide) (by decide) k) ?_
      show OwnEnds p.tables e below _ (s₁.setTop (mkF m 34 #[.val (.int p0), .val (.int p1), .val (.int p2), .val (.int ((p0.toUInt32 >>> ((3 : Int32) &&& 31).toUInt32).toInt32))] []))
      refine own_via (fun t k => XS.iconst X0.here hx rfl (hb hby d7_34) k) ?_
      show OwnEnds p.tables e below _ (s₁.setTop (mkF m 35 #[.val (.int p0), .val (.int p1), .val (.int p2), .val (.int ((p0.toUInt32 >>> ((3 : Int32) &&& 31).toUInt32).toInt32))] [(.int (0 : Int32))]))
      refine own_retN (t := .boolean) X0 hx Bd.returns (by simp) hlk (hb hby d7_35) ?_ (by decide) (by decide)
      rw [e0]
      exact ⟨congrArg (fun z => some (Value.int z)) (show nar .boolean (0 : Int32) = own_ref p0 p1 p2 by simp only [own_ref, if_pos hc6_1, if_pos hc27_2, own_nar1, own_nar0]), N0, rfl⟩
    · skip
      refine own_via (fun t k => XS.ifNo X0.here hx rfl (hb hby d7_27) rfl ((if0 _ _).trans (feq hc27_2).1) k) ?_
      show OwnEnds p.tables e below _ (s₁.setTop (mkF m 30 #[.val (.int p0), .val (.int p1), .val (.int p2), .val (.int ((p0.toUInt32 >>> ((3 : Int32) &&& 31).toUInt32).toInt32))] []))
      refine own_via (fun t k => XS.iconst X0.here hx rfl (hb hby d7_30) k) ?_
      show OwnEnds p.tables e below _ (s₁.setTop (mkF m 31 #[.val (.int p0), .val (.int p1), .val (.int p2), .val (.int ((p0.toUInt32 >>> ((3 : Int32) &&& 31).toUInt32).toInt32))] [(.int (1 : Int32))]))
      refine own_via (fun t k => XS.goto X0.here hx rfl (pc0 := 31) (pc' := 35) rfl (hb hby d7_31) (by decide) (by decide) k) ?_
      show OwnEnds p.tables e below _ (s₁.setTop (mkF m 35 #[.val (.int p0), .val (.int p1), .val (.int p2), .val (.int ((p0.toUInt32 >>> ((3 : Int32) &&& 31).toUInt32).toInt32))] [(.int (1 : Int32))]))
      refine own_retN (t := .boolean) X0 hx Bd.returns (by simp) hlk (hb hby d7_35) ?_ (by decide) (by decide)
      rw [e0]
      exact ⟨congrArg (fun z => some (Value.int z)) (show nar .boolean (1 : Int32) = own_ref p0 p1 p2 by simp only [own_ref, if_pos hc6_1, if_neg hc27_2, own_nar1, own_nar0]), N0, rfl⟩
  · skip
    refine own_via (fun t k => XS.icmpNo X0.here hx rfl (hb hby d7_6) rfl (flt hc6_1).1 k) ?_
    show OwnEnds p.tables e below _ (s₁.setTop (mkF m 9 #[.val (.int p0), .val (.int p1), .val (.int p2), .val (.int ((p0.toUInt32 >>> ((3 : Int32) &&& 31).toUInt32).toInt32))] []))
    refine own_via (fun t k => XS.iconst X0.here hx rfl (hb hby d7_9) k) ?_
    show OwnEnds p.tables e below _ (s₁.setTop (mkF m 10 #[.val (.int p0), .val (.int p1), .val (.int p2), .val (.int ((p0.toUInt32 >>> ((3 : Int32) &&& 31).toUInt32).toInt32))] [(.int (0 : Int32))]))
    refine own_retN (t := .boolean) X0 hx Bd.returns (by simp) hlk (hb hby d7_10) ?_ (by decide) (by decide)
    rw [e0]
    exact ⟨congrArg (fun z => some (Value.int z)) (show nar .boolean (0 : Int32) = own_ref p0 p1 p2 by simp only [own_ref, if_neg hc6_1, own_nar1, own_nar0]), N0, rfl⟩
theorem ef_0 (m : MethodId) (p0 : Int32) (p1 : Int32) (p2 : Int32) (p3 : Int32) (p4 : Int32) : entryFrame m #[(.int p0), (.int p1), (.int p2), (.int p3), (.int p4)] maxLocals = mkF m 0 #[.val (.int p0), .val (.int p1), .val (.int p2), .val (.int p3), .val (.int p4), .unset, .unset, .unset, .unset, .unset, .unset, .unset, .unset, .unset, .unset, .unset] [] := by first | (simp [entryFrame, mkF, argsToLocals, Value.category, maxLocals]; done) | rfl
def Q0 (Z : State) (p0 : Int32) (p1 : Int32) (p2 : Int32) (p3 : Int32) (p4 : Int32) (h0 : Heap) (n0 : Nat) (v : Option Value) (h : Heap) (L : List Loc) : Prop := v = some (.int 1) ∧ Fr n0 L
theorem pd_0 : parseMethodDescriptor "(II)I" = some ⟨[.int, .int], some .int⟩ := by decide +kernel
theorem pd_1 : parseMethodDescriptor "(II)[B" = some ⟨[.int, .int], some (.array .byte)⟩ := by decide +kernel
theorem pd_2 : parseMethodDescriptor "(J[I)V" = some ⟨[.long, (.array .int)], none⟩ := by decide +kernel
theorem pd_3 : parseMethodDescriptor "([B)[Z" = some ⟨[(.array .byte)], some (.array .boolean)⟩ := by decide +kernel
theorem pd_4 : parseMethodDescriptor "(III)Z" = some ⟨[.int, .int, .int], some .boolean⟩ := by decide +kernel
set_option maxRecDepth 65536 in
set_option maxHeartbeats 40000000 in
theorem rm0 (l : Launch) (Z : State) (aw : Array Value) (hw : ∀ d ∈ tables_1, d.before aw Z = true) (ws : List Jvm.Cond) (p0 : Int32) (p1 : Int32) (p2 : Int32) (p3 : Int32) (p4 : Int32) (h0 : Heap) (n0 : Nat) (Z0 : n0 ≤ h0.size) :
    MetFree l x (head1 (Jvm.Cond.code x code maxLocals ret :: ws) room_1) (fun a U => a = #[(.int p0), (.int p1), (.int p2), (.int p3), (.int p4)] ∧ Z.Warmed39 U.vm ∧ U.heap = h0) (fun _ _ _ _ _ => True) (fun _ U o U' => ∃ v L, o = .returned v ∧ Q0 Z p0 p1 p2 p3 p4 h0 n0 v U'.heap L ∧ FrameEnd U o U' L 16 128) := by
  refine MetFree.of_bodySF (plainFor_of_name pn_0) hisR ?_
  intro p e s m args below meth c s₁ Bd hml0 hP hK
  obtain ⟨rfl, hZ, hh⟩ := hP
  have hx := Bd.exec
  have hby := Bd.bytes
  have hml : c.maxLocals = 16 := hml0
  have hown : s.vm.findClass "com/example/crowd_cache/crowdcache/core/BucketFoundInPinLaw" = some m.cls := findClass_of_methodNamed Bd.named
  have hnm := (name_of_methodNamed Bd.named Bd.method).1
  have hlk : meth.locks = false := Bd.notSynchronized
  have X0 : Stand p l e room_1 s m #[(.int p0), (.int p1), (.int p2), (.int p3), (.int p4)] below meth c s₁ [] 0 0 := Stand.of_body Bd
  have e0 : s₁.heap = h0 := by rw [← hh, Bd.state]; rfl
  have N0 := Fr.nil n0
  show OwnEnds p.tables e below (OwnQ s 16 128 (Q0 Z p0 p1 p2 p3 p4 h0 n0)) (s₁.setTop (entryFrame m #[(.int p0), (.int p1), (.int p2), (.int p3), (.int p4)] maxLocals))
  refine own_via (fun t k => castTop (ef_0 m p0 p1 p2 p3 p4) k) ?_
  show OwnEnds p.tables e below _ (s₁.setTop (mkF m 0 #[.val (.int p0), .val (.int p1), .val (.int p2), .val (.int p3), .val (.int p4), .unset, .unset, .unset, .unset, .unset, .unset, .unset, .unset, .unset, .unset, .unset] []))
  refine own_via (fun t k => XS.iloadN X0.here hx rfl (hb hby at_0) rfl k) ?_
  show OwnEnds p.tables e below _ (s₁.setTop (mkF m 1 #[.val (.int p0), .val (.int p1), .val (.int p2), .val (.int p3), .val (.int p4), .unset, .unset, .unset, .unset, .unset, .unset, .unset, .unset, .unset, .unset, .unset] [(.int p2)]))
  refine own_via (fun t k => XS.iconst X0.here hx rfl (hb hby at_1) k) ?_
  show OwnEnds p.tables e below _ (s₁.setTop (mkF m 2 #[.val (.int p0), .val (.int p1), .val (.int p2), .val (.int p3), .val (.int p4), .unset, .unset, .unset, .unset, .unset, .unset, .unset, .unset, .unset, .unset, .unset] [(.int (1 : Int32)), (.int p2)]))
  refine own_via (fun t k => XS.iand X0.here hx rfl (hb hby at_2) rfl k) ?_
  show OwnEnds p.tables e below _ (s₁.setTop (mkF m 3 #[.val (.int p0), .val (.int p1), .val (.int p2), .val (.int p3), .val (.int p4), .unset, .unset, .unset, .unset, .unset, .unset, .unset, .unset, .unset, .unset, .unset] [(.int (p2 &&& (1 : Int32)))]))
  have J13_1 : ∀ mk : Int32, mk = (if (p2 &&& (1 : Int32)) = (0 : Int32) then (65535 : Int32) else (63 : Int32)) → OwnEnds p.tables e below (OwnQ s 16 128 (Q0 Z p0 p1 p2 p3 p4 h0 n0)) (s₁.setTop (mkF m 13 #[.val (.int p0), .val (.int p1), .val (.int p2), .val (.int p3), .val (.int p4), .unset, .unset, .unset, .unset, .unset, .unset, .unset, .unset, .unset, .unset, .unset] [(.int mk)])) := by
    intro mk h_mk
    refine own_via (fun t k => XS.istore X0.here hx rfl (hb hby at_13) rfl (l' := #[.val (.int p0), .val (.int p1), .val (.int p2), .val (.int p3), .val (.int p4), .val (.int mk), .unset, .unset, .unset, .unset, .unset, .unset, .unset, .unset, .unset, .unset]) rfl k) ?_
    show OwnEnds p.tables e below _ (s₁.setTop (mkF m 15 #[.val (.int p0), .val (.int p1), .val (.int p2), .val (.int p3), .val (.int p4), .val (.int mk), .unset, .unset, .unset, .unset, .unset, .unset, .unset, .unset, .unset, .unset] []))
    refine own_via (fun t k => XS.iloadN X0.here hx rfl (hb hby at_15) rfl k) ?_
    show OwnEnds p.tables e below _ (s₁.setTop (mkF m 16 #[.val (.int p0), .val (.int p1), .val (.int p2), .val (.int p3), .val (.int p4), .val (.int mk), .unset, .unset, .unset, .unset, .unset, .unset, .unset, .unset, .unset, .unset] [(.int p0)]))
    refine own_via (fun t k => XS.iload X0.here hx rfl (hb hby at_16) rfl k) ?_
    show OwnEnds p.tables e below _ (s₁.setTop (mkF m 18 #[.val (.int p0), .val (.int p1), .val (.int p2), .val (.int p3), .val (.int p4), .val (.int mk), .unset, .unset, .unset, .unset, .unset, .unset, .unset, .unset, .unset, .unset] [(.int mk), (.int p0)]))
    refine own_via (fun t k => XS.iand X0.here hx rfl (hb hby at_18) rfl k) ?_
    show OwnEnds p.tables e below _ (s₁.setTop (mkF m 19 #[.val (.int p0), .val (.int p1), .val (.int p2), .val (.int p3), .val (.int p4), .val (.int mk), .unset, .unset, .unset, .unset, .unset, .unset, .unset, .unset, .unset, .unset] [(.int (p0 &&& mk))]))
    obtain ⟨a, h_a⟩ : ∃ z, z = (p0 &&& mk) := ⟨_, rfl⟩
    rw [← h_a]
    have ha : 0 ≤ a.toInt ∧ a.toInt ≤ 65535 := by rw [h_a]; exact own_msk h_mk
    refine own_via (fun t k => XS.istore X0.here hx rfl (hb hby at_19) rfl (l' := #[.val (.int p0), .val (.int p1), .val (.int p2), .val (.int p3), .val (.int p4), .val (.int mk), .val (.int a), .unset, .unset, .unset, .unset, .unset, .unset, .unset, .unset, .unset]) rfl k) ?_
    show OwnEnds p.tables e below _ (s₁.setTop (mkF m 21 #[.val (.int p0), .val (.int p1), .val (.int p2), .val (.int p3), .val (.int p4), .val (.int mk), .val (.int a), .unset, .unset, .unset, .unset, .unset, .unset, .unset, .unset, .unset] []))
    refine own_via (fun t k => XS.iloadN X0.here hx rfl (hb hby at_21) rfl k) ?_
    show OwnEnds p.tables e below _ (s₁.setTop (mkF m 22 #[.val (.int p0), .val (.int p1), .val (.int p2), .val (.int p3), .val (.int p4), .val (.int mk), .val (.int a), .unset, .unset, .unset, .unset, .unset, .unset, .unset, .unset, .unset] [(.int p1)]))
    refine own_via (fun t k => XS.iload X0.here hx rfl (hb hby at_22) rfl k) ?_
    show OwnEnds p.tables e below _ (s₁.setTop (mkF m 24 #[.val (.int p0), .val (.int p1), .val (.int p2), .val (.int p3), .val (.int p4), .val (.int mk), .val (.int a), .unset, .unset, .unset, .unset, .unset, .unset, .unset, .unset, .unset] [(.int mk), (.int p1)]))
    refine own_via (fun t k => XS.iand X0.here hx rfl (hb hby at_24) rfl k) ?_
    show OwnEnds p.tables e below _ (s₁.setTop (mkF m 25 #[.val (.int p0), .val (.int p1), .val (.int p2), .val (.int p3), .val (.int p4), .val (.int mk), .val (.int a), .unset, .unset, .unset, .unset, .unset, .unset, .unset, .unset, .unset] [(.int (p1 &&& mk))]))
    obtain ⟨b, h_b⟩ : ∃ z, z = (p1 &&& mk) := ⟨_, rfl⟩
    rw [← h_b]
    have hb' : 0 ≤ b.toInt ∧ b.toInt ≤ 65535 := by rw [h_b]; exact own_msk h_mk
    refine own_via (fun t k => XS.istore X0.here hx rfl (hb hby at_25) rfl (l' := #[.val (.int p0), .val (.int p1), .val (.int p2), .val (.int p3), .val (.int p4), .val (.int mk), .val (.int a), .val (.int b), .unset, .unset, .unset, .unset, .unset, .unset, .unset, .unset]) rfl k) ?_
    show OwnEnds p.tables e below _ (s₁.setTop (mkF m 27 #[.val (.int p0), .val (.int p1), .val (.int p2), .val (.int p3), .val (.int p4), .val (.int mk), .val (.int a), .val (.int b), .unset, .unset, .unset, .unset, .unset, .unset, .unset, .unset] []))
    refine own_via (fun t k => XS.iload X0.here hx rfl (hb hby at_27) rfl k) ?_
    show OwnEnds p.tables e below _ (s₁.setTop (mkF m 29 #[.val (.int p0), .val (.int p1), .val (.int p2), .val (.int p3), .val (.int p4), .val (.int mk), .val (.int a), .val (.int b), .unset, .unset, .unset, .unset, .unset, .unset, .unset, .unset] [(.int a)]))
    refine own_via (fun t k => XS.iload X0.here hx rfl (hb hby at_29) rfl k) ?_
    show OwnEnds p.tables e below _ (s₁.setTop (mkF m 31 #[.val (.int p0), .val (.int p1), .val (.int p2), .val (.int p3), .val (.int p4), .val (.int mk), .val (.int a), .val (.int b), .unset, .unset, .unset, .unset, .unset, .unset, .unset, .unset] [(.int b), (.int a)]))
    obtain ⟨_, _, ⟨T2, L2, k2, n2⟩, -, X2, ⟨Lc2, hQ2, l2, y2, z2⟩, st2⟩ := Jvm.LawKit.callS X0 hx (y := (⟨"java/lang/Math", "min", "(II)I"⟩ : MethodName)) hown (mvT hZ (hw _ (List.mem_of_getElem? (i := 1) rfl))) (mvT hZ (hw _ (List.mem_of_getElem? (i := 2) rfl))) (mvT hZ (hw _ (List.mem_of_getElem? (i := 3) rfl))) (mvT hZ (hw _ (List.mem_of_getElem? (i := 4) rfl))) (by decide) (backOf (W := 0) (rm1 l Z aw hw [] a b h0 n0 Z0 ) hZ (hw _ (List.mem_of_getElem? (i := 4) rfl)) (hw _ (List.mem_of_getElem? (i := 3) rfl)) (by decide) (by decide)) (g := (mkF m 31 #[.val (.int p0), .val (.int p1), .val (.int p2), .val (.int p3), .val (.int p4), .val (.int mk), .val (.int a), .val (.int b), .unset, .unset, .unset, .unset, .unset, .unset, .unset, .unset] [(.int b), (.int a)])) rfl (by rw [hml]; rfl) (argsL := [(.int a), (.int b)]) (rest := []) (lenOf pd_0 rfl) rfl (by show 2 * 0 + _ ≤ _; exact Nat.le_of_eq rfl) (hb hby at_31) (fun _ _ => ⟨rfl, e0, (by decide : 0 + 0 ≤ _), (by decide : 0 + 0 ≤ _)⟩)
    dsimp only [Pt.U, Pt.locs, Pt.cells, Pt.slots] at X2 l2 y2 z2 st2 hQ2
    subst l2 y2 z2
    obtain ⟨rfl, Nq2, e2⟩ := hQ2
    have N2 := Fr.app N0 Nq2
    replace e2 : T2.heap = h0 := e2
    refine own_via st2 ?_
    show OwnEnds p.tables e below _ (T2.setTop (mkF m 34 #[.val (.int p0), .val (.int p1), .val (.int p2), .val (.int p3), .val (.int p4), .val (.int mk), .val (.int a), .val (.int b), .unset, .unset, .unset, .unset, .unset, .unset, .unset, .unset] [(.int (own_minI a b))]))
    obtain ⟨lo, h_lo⟩ : ∃ z, z = (own_minI a b) := ⟨_, rfl⟩
    rw [← h_lo]
    have hlo : 0 ≤ lo.toInt ∧ lo.toInt ≤ 65535 := by rw [h_lo]; exact own_min ha hb'
    refine own_via (fun t k => XS.istore X2.here hx rfl (hb hby at_34) rfl (l' := #[.val (.int p0), .val (.int p1), .val (.int p2), .val (.int p3), .val (.int p4), .val (.int mk), .val (.int a), .val (.int b), .val (.int lo), .unset, .unset, .unset, .unset, .unset, .unset, .unset]) rfl k) ?_
    show OwnEnds p.tables e below _ (T2.setTop (mkF m 36 #[.val (.int p0), .val (.int p1), .val (.int p2), .val (.int p3), .val (.int p4), .val (.int mk), .val (.int a), .val (.int b), .val (.int lo), .unset, .unset, .unset, .unset, .unset, .unset, .unset] []))
    refine own_via (fun t k => XS.iload X2.here hx rfl (hb hby at_36) rfl k) ?_
    show OwnEnds p.tables e below _ (T2.setTop (mkF m 38 #[.val (.int p0), .val (.int p1), .val (.int p2), .val (.int p3), .val (.int p4), .val (.int mk), .val (.int a), .val (.int b), .val (.int lo), .unset, .unset, .unset, .unset, .unset, .unset, .unset] [(.int a)]))
    refine own_via (fun t k => XS.iload X2.here hx rfl (hb hby at_38) rfl k) ?_
    show OwnEnds p.tables e below _ (T2.setTop (mkF m 40 #[.val (.int p0), .val (.int p1), .val (.int p2), .val (.int p3), .val (.int p4), .val (.int mk), .val (.int a), .val (.int b), .val (.int lo), .unset, .unset, .unset, .unset, .unset, .unset, .unset] [(.int b), (.int a)]))
    obtain ⟨_, _, ⟨T3, L3, k3, n3⟩, -, X3, ⟨Lc3, hQ3, l3, y3, z3⟩, st3⟩ := Jvm.LawKit.callS X2 hx (y := (⟨"java/lang/Math", "max", "(II)I"⟩ : MethodName)) hown (mvT hZ (hw _ (List.mem_of_getElem? (i := 5) rfl))) (mvT hZ (hw _ (List.mem_of_getElem? (i := 6) rfl))) (mvT hZ (hw _ (List.mem_of_getElem? (i := 3) rfl))) (mvT hZ (hw _ (List.mem_of_getElem? (i := 7) rfl))) (by decide) (backOf (W := 0) (rm2 l Z aw hw [] a b h0 n0 Z0 ) hZ (hw _ (List.mem_of_getElem? (i := 7) rfl)) (hw _ (List.mem_of_getElem? (i := 3) rfl)) (by decide) (by decide)) (g := (mkF m 40 #[.val (.int p0), .val (.int p1), .val (.int p2), .val (.int p3), .val (.int p4), .val (.int mk), .val (.int a), .val (.int b), .val (.int lo), .unset, .unset, .unset, .unset, .unset, .unset, .unset] [(.int b), (.int a)])) rfl (by rw [hml]; rfl) (argsL := [(.int a), (.int b)]) (rest := []) (lenOf pd_0 rfl) rfl (by show 2 * 0 + _ ≤ _; exact Nat.le_of_eq rfl) (hb hby at_40) (fun _ _ => ⟨rfl, e2, (by decide : 0 + 0 ≤ _), (by decide : 0 + 0 ≤ _)⟩)
    dsimp only [Pt.U, Pt.locs, Pt.cells, Pt.slots] at X3 l3 y3 z3 st3 hQ3
    subst l3 y3 z3
    obtain ⟨rfl, Nq3, e3⟩ := hQ3
    have N3 := Fr.app N2 Nq3
    replace e3 : T3.heap = h0 := e3
    refine own_via st3 ?_
    show OwnEnds p.tables e below _ (T3.setTop (mkF m 43 #[.val (.int p0), .val (.int p1), .val (.int p2), .val (.int p3), .val (.int p4), .val (.int mk), .val (.int a), .val (.int b), .val (.int lo), .unset, .unset, .unset, .unset, .unset, .unset, .unset] [(.int (own_maxI a b))]))
    obtain ⟨hi, h_hi⟩ : ∃ z, z = (own_maxI a b) := ⟨_, rfl⟩
    rw [← h_hi]
    have hhi : 0 ≤ hi.toInt ∧ hi.toInt ≤ 65535 := by rw [h_hi]; exact own_max ha hb'
    refine own_via (fun t k => XS.istore X3.here hx rfl (hb hby at_43) rfl (l' := #[.val (.int p0), .val (.int p1), .val (.int p2), .val (.int p3), .val (.int p4), .val (.int mk), .val (.int a), .val (.int b), .val (.int lo), .val (.int hi), .unset, .unset, .unset, .unset, .unset, .unset]) rfl k) ?_
    show OwnEnds p.tables e below _ (T3.setTop (mkF m 45 #[.val (.int p0), .val (.int p1), .val (.int p2), .val (.int p3), .val (.int p4), .val (.int mk), .val (.int a), .val (.int b), .val (.int lo), .val (.int hi), .unset, .unset, .unset, .unset, .unset, .unset] []))
    refine own_via (fun t k => XS.iloadN X3.here hx rfl (hb hby at_45) rfl k) ?_
    show OwnEnds p.tables e below _ (T3.setTop (mkF m 46 #[.val (.int p0), .val (.int p1), .val (.int p2), .val (.int p3), .val (.int p4), .val (.int mk), .val (.int a), .val (.int b), .val (.int lo), .val (.int hi), .unset, .unset, .unset, .unset, .unset, .unset] [(.int p2)]))
    refine own_via (fun t k => XS.iconst X3.here hx rfl (hb hby at_46) k) ?_
    show OwnEnds p.tables e below _ (T3.setTop (mkF m 47 #[.val (.int p0), .val (.int p1), .val (.int p2), .val (.int p3), .val (.int p4), .val (.int mk), .val (.int a), .val (.int b), .val (.int lo), .val (.int hi), .unset, .unset, .unset, .unset, .unset, .unset] [(.int (2 : Int32)), (.int p2)]))
    refine own_via (fun t k => XS.iand X3.here hx rfl (hb hby at_47) rfl k) ?_
    show OwnEnds p.tables e below _ (T3.setTop (mkF m 48 #[.val (.int p0), .val (.int p1), .val (.int p2), .val (.int p3), .val (.int p4), .val (.int mk), .val (.int a), .val (.int b), .val (.int lo), .val (.int hi), .unset, .unset, .unset, .unset, .unset, .unset] [(.int (p2 &&& (2 : Int32)))]))
    have J63_4 : ∀ tw : Int32, tw = (if (p2 &&& (2 : Int32)) = (0 : Int32) then (0 : Int32) else (if lo < hi then (1 : Int32) else (0 : Int32))) → OwnEnds p.tables e below (OwnQ s 16 128 (Q0 Z p0 p1 p2 p3 p4 h0 n0)) (T3.setTop (mkF m 63 #[.val (.int p0), .val (.int p1), .val (.int p2), .val (.int p3), .val (.int p4), .val (.int mk), .val (.int a), .val (.int b), .val (.int lo), .val (.int hi), .unset, .unset, .unset, .unset, .unset, .unset] [(.int tw)])) := by
      intro tw h_tw
      refine own_via (fun t k => XS.istore X3.here hx rfl (hb hby at_63) rfl (l' := #[.val (.int p0), .val (.int p1), .val (.int p2), .val (.int p3), .val (.int p4), .val (.int mk), .val (.int a), .val (.int b), .val (.int lo), .val (.int hi), .val (.int tw), .unset, .unset, .unset, .unset, .unset]) rfl k) ?_
      show OwnEnds p.tables e below _ (T3.setTop (mkF m 65 #[.val (.int p0), .val (.int p1), .val (.int p2), .val (.int p3), .val (.int p4), .val (.int mk), .val (.int a), .val (.int b), .val (.int lo), .val (.int hi), .val (.int tw), .unset, .unset, .unset, .unset, .unset] []))
      refine own_via (fun t k => XS.iload X3.here hx rfl (hb hby at_65) rfl k) ?_
      show OwnEnds p.tables e below _ (T3.setTop (mkF m 67 #[.val (.int p0), .val (.int p1), .val (.int p2), .val (.int p3), .val (.int p4), .val (.int mk), .val (.int a), .val (.int b), .val (.int lo), .val (.int hi), .val (.int tw), .unset, .unset, .unset, .unset, .unset] [(.int tw)]))
      by_cases hc67_5 : tw = (0 : Int32)
      · skip
        refine own_via (fun t k => XS.ifYes X3.here hx rfl (pc0 := 67) (pc' := 86) rfl (hb hby at_67) rfl ((if0 _ _).trans (teq hc67_5).1) (by decide) (by decide) k) ?_
        show OwnEnds p.tables e below _ (T3.setTop (mkF m 86 #[.val (.int p0), .val (.int p1), .val (.int p2), .val (.int p3), .val (.int p4), .val (.int mk), .val (.int a), .val (.int b), .val (.int lo), .val (.int hi), .val (.int tw), .unset, .unset, .unset, .unset, .unset] []))
        refine own_via (fun t k => XS.iconst X3.here hx rfl (hb hby at_86) k) ?_
        show OwnEnds p.tables e below _ (T3.setTop (mkF m 87 #[.val (.int p0), .val (.int p1), .val (.int p2), .val (.int p3), .val (.int p4), .val (.int mk), .val (.int a), .val (.int b), .val (.int lo), .val (.int hi), .val (.int tw), .unset, .unset, .unset, .unset, .unset] [(.int (1 : Int32))]))
        obtain ⟨T6, h6, k6, X6, e6, E6, A6, st6⟩ := newP X3 hx hZ (hw _ (List.mem_of_getElem? (i := 8) rfl)) e3 (g := (mkF m 87 #[.val (.int p0), .val (.int p1), .val (.int p2), .val (.int p3), .val (.int p4), .val (.int mk), .val (.int a), .val (.int b), .val (.int lo), .val (.int hi), .val (.int tw), .unset, .unset, .unset, .unset, .unset] [(.int (1 : Int32))])) rfl (hb hby at_87) rfl (by decide) (cap := 1) (by decide) (by decide) (by decide) (by decide)
        obtain ⟨b6, g6⟩ : ∃ z, z = h0.size := ⟨_, rfl⟩
        rw [← g6] at A6 st6
        have g_b6 : n0 ≤ b6 := Nat.le_trans Z0 (Nat.le_of_eq g6.symm)
        have Zs_6 : n0 ≤ _ := Nat.le_trans Z0 E6.1
        have A_b6 : AL Z h6 b6 .int [(.int (0 : Int32))] := AL.new A6 (by decide) (i := 1) rfl
        refine own_via st6 ?_
        show OwnEnds p.tables e below _ (T6.setTop (mkF m 89 #[.val (.int p0), .val (.int p1), .val (.int p2), .val (.int p3), .val (.int p4), .val (.int mk), .val (.int a), .val (.int b), .val (.int lo), .val (.int hi), .val (.int tw), .unset, .unset, .unset, .unset, .unset] [(.ref b6)]))
        refine own_via (fun t k => XS.dup X6.here hx rfl (hb hby at_89) rfl rfl k) ?_
        show OwnEnds p.tables e below _ (T6.setTop (mkF m 90 #[.val (.int p0), .val (.int p1), .val (.int p2), .val (.int p3), .val (.int p4), .val (.int mk), .val (.int a), .val (.int b), .val (.int lo), .val (.int hi), .val (.int tw), .unset, .unset, .unset, .unset, .unset] [(.ref b6), (.ref b6)]))
        refine own_via (fun t k => XS.iconst X6.here hx rfl (hb hby at_90) k) ?_
        show OwnEnds p.tables e below _ (T6.setTop (mkF m 91 #[.val (.int p0), .val (.int p1), .val (.int p2), .val (.int p3), .val (.int p4), .val (.int mk), .val (.int a), .val (.int b), .val (.int lo), .val (.int hi), .val (.int tw), .unset, .unset, .unset, .unset, .unset] [(.int (0 : Int32)), (.ref b6), (.ref b6)]))
        refine own_via (fun t k => XS.iload X6.here hx rfl (hb hby at_91) rfl k) ?_
        show OwnEnds p.tables e below _ (T6.setTop (mkF m 93 #[.val (.int p0), .val (.int p1), .val (.int p2), .val (.int p3), .val (.int p4), .val (.int mk), .val (.int a), .val (.int b), .val (.int lo), .val (.int hi), .val (.int tw), .unset, .unset, .unset, .unset, .unset] [(.int a), (.int (0 : Int32)), (.ref b6), (.ref b6)]))
        obtain ⟨T7, h7, X7, e7, W7, AA7, st7⟩ := own_stI X6 hx hZ e6 A_b6 0 rfl (Nat.le_of_ble_eq_true rfl) (g := (mkF m 93 #[.val (.int p0), .val (.int p1), .val (.int p2), .val (.int p3), .val (.int p4), .val (.int mk), .val (.int a), .val (.int b), .val (.int lo), .val (.int hi), .val (.int tw), .unset, .unset, .unset, .unset, .unset] [(.int a), (.int (0 : Int32)), (.ref b6), (.ref b6)])) rfl rfl (hb hby at_93)
        have Zs_W7 : n0 ≤ _ := Nat.le_trans Zs_6 (Keep.of_wr W7).1
        replace A_b6 : AL Z h7 b6 .int [(.int a)] := AA7
        have N7 := Fr.snoc X7 N3 g_b6
        refine own_via st7 ?_
        show OwnEnds p.tables e below _ (T7.setTop (mkF m 94 #[.val (.int p0), .val (.int p1), .val (.int p2), .val (.int p3), .val (.int p4), .val (.int mk), .val (.int a), .val (.int b), .val (.int lo), .val (.int hi), .val (.int tw), .unset, .unset, .unset, .unset, .unset] [(.ref b6)]))
        refine own_via (fun t k => XS.astore X7.here hx rfl (hb hby at_94) rfl rfl (l' := #[.val (.int p0), .val (.int p1), .val (.int p2), .val (.int p3), .val (.int p4), .val (.int mk), .val (.int a), .val (.int b), .val (.int lo), .val (.int hi), .val (.int tw), .val (.ref b6), .unset, .unset, .unset, .unset]) rfl k) ?_
        show OwnEnds p.tables e below _ (T7.setTop (mkF m 96 #[.val (.int p0), .val (.int p1), .val (.int p2), .val (.int p3), .val (.int p4), .val (.int mk), .val (.int a), .val (.int b), .val (.int lo), .val (.int hi), .val (.int tw), .val (.ref b6), .unset, .unset, .unset, .unset] []))
        refine own_via (fun t k => XS.iloadN X7.here hx rfl (hb hby at_96) rfl k) ?_
        show OwnEnds p.tables e below _ (T7.setTop (mkF m 97 #[.val (.int p0), .val (.int p1), .val (.int p2), .val (.int p3), .val (.int p4), .val (.int mk), .val (.int a), .val (.int b), .val (.int lo), .val (.int hi), .val (.int tw), .val (.ref b6), .unset, .unset, .unset, .unset] [(.int p3)]))
        refine own_via (X7.ldcInt hx hown (mvT hZ (hw _ (List.mem_of_getElem? (i := 9) rfl))) (g := (mkF m 97 #[.val (.int p0), .val (.int p1), .val (.int p2), .val (.int p3), .val (.int p4), .val (.int mk), .val (.int a), .val (.int b), .val (.int lo), .val (.int hi), .val (.int tw), .val (.ref b6), .unset, .unset, .unset, .unset] [(.int p3)])) rfl (hb hby at_97)) ?_
        show OwnEnds p.tables e below _ (T7.setTop (mkF m 99 #[.val (.int p0), .val (.int p1), .val (.int p2), .val (.int p3), .val (.int p4), .val (.int mk), .val (.int a), .val (.int b), .val (.int lo), .val (.int hi), .val (.int tw), .val (.ref b6), .unset, .unset, .unset, .unset] [(.int (2147483647 : Int32)), (.int p3)]))
        refine own_via (fun t k => XS.iand X7.here hx rfl (hb hby at_99) rfl k) ?_
        show OwnEnds p.tables e below _ (T7.setTop (mkF m 100 #[.val (.int p0), .val (.int p1), .val (.int p2), .val (.int p3), .val (.int p4), .val (.int mk), .val (.int a), .val (.int b), .val (.int lo), .val (.int hi), .val (.int tw), .val (.ref b6), .unset, .unset, .unset, .unset] [(.int (p3 &&& (2147483647 : Int32)))]))
        refine own_via (fun t k => XS.iconst X7.here hx rfl (hb hby at_100) k) ?_
        show OwnEnds p.tables e below _ (T7.setTop (mkF m 101 #[.val (.int p0), .val (.int p1), .val (.int p2), .val (.int p3), .val (.int p4), .val (.int mk), .val (.int a), .val (.int b), .val (.int lo), .val (.int hi), .val (.int tw), .val (.ref b6), .unset, .unset, .unset, .unset] [(.int (5 : Int32)), (.int (p3 &&& (2147483647 : Int32)))]))
        refine own_via (fun t k => Jvm.RoadKit.iremM X7 hx rfl (hb hby at_101) rfl (by decide) k) ?_
        show OwnEnds p.tables e below _ (T7.setTop (mkF m 102 #[.val (.int p0), .val (.int p1), .val (.int p2), .val (.int p3), .val (.int p4), .val (.int mk), .val (.int a), .val (.int b), .val (.int lo), .val (.int hi), .val (.int tw), .val (.ref b6), .unset, .unset, .unset, .unset] [(.int ((p3 &&& (2147483647 : Int32)) % (5 : Int32)))]))
        obtain ⟨nn, h_nn⟩ : ∃ z, z = ((p3 &&& (2147483647 : Int32)) % (5 : Int32)) := ⟨_, rfl⟩
        rw [← h_nn]
        obtain ⟨n, hn, hn4⟩ := own_nn h_nn
        have hnn4 : nn.toInt ≤ 4 := by omega
        refine own_via (fun t k => XS.istore X7.here hx rfl (hb hby at_102) rfl (l' := #[.val (.int p0), .val (.int p1), .val (.int p2), .val (.int p3), .val (.int p4), .val (.int mk), .val (.int a), .val (.int b), .val (.int lo), .val (.int hi), .val (.int tw), .val (.ref b6), .val (.int nn), .unset, .unset, .unset]) rfl k) ?_
        show OwnEnds p.tables e below _ (T7.setTop (mkF m 104 #[.val (.int p0), .val (.int p1), .val (.int p2), .val (.int p3), .val (.int p4), .val (.int mk), .val (.int a), .val (.int b), .val (.int lo), .val (.int hi), .val (.int tw), .val (.ref b6), .val (.int nn), .unset, .unset, .unset] []))
        refine own_via (fun t k => XS.iload X7.here hx rfl (hb hby at_104) rfl k) ?_
        show OwnEnds p.tables e below _ (T7.setTop (mkF m 106 #[.val (.int p0), .val (.int p1), .val (.int p2), .val (.int p3), .val (.int p4), .val (.int mk), .val (.int a), .val (.int b), .val (.int lo), .val (.int hi), .val (.int tw), .val (.ref b6), .val (.int nn), .unset, .unset, .unset] [(.int nn)]))
        refine own_via (fun t k => XS.iload X7.here hx rfl (hb hby at_106) rfl k) ?_
        show OwnEnds p.tables e below _ (T7.setTop (mkF m 108 #[.val (.int p0), .val (.int p1), .val (.int p2), .val (.int p3), .val (.int p4), .val (.int mk), .val (.int a), .val (.int b), .val (.int lo), .val (.int hi), .val (.int tw), .val (.ref b6), .val (.int nn), .unset, .unset, .unset] [(.int p4), (.int nn)]))
        obtain ⟨_, _, ⟨T8, L8, k8, n8⟩, -, X8, ⟨Lc8, hQ8, l8, y8, z8⟩, st8⟩ := Jvm.LawKit.callS X7 hx (y := (⟨"com/example/crowd_cache/crowdcache/core/BucketFoundInPinLaw", "make", "(II)[B"⟩ : MethodName)) hown (mvT hZ (hw _ (List.mem_of_getElem? (i := 10) rfl))) (mvT hZ (hw _ (List.mem_of_getElem? (i := 11) rfl))) (mvT hZ (hw _ (List.mem_of_getElem? (i := 12) rfl))) (mvT hZ (hw _ (List.mem_of_getElem? (i := 13) rfl))) (by decide) (backOf (W := 0) (rm3 l Z aw hw [] nn p4 n h7 n0 Zs_W7 hn hn4) hZ (hw _ (List.mem_of_getElem? (i := 13) rfl)) (hw _ (List.mem_of_getElem? (i := 12) rfl)) (by decide) (by decide)) (g := (mkF m 108 #[.val (.int p0), .val (.int p1), .val (.int p2), .val (.int p3), .val (.int p4), .val (.int mk), .val (.int a), .val (.int b), .val (.int lo), .val (.int hi), .val (.int tw), .val (.ref b6), .val (.int nn), .unset, .unset, .unset] [(.int p4), (.int nn)])) rfl (by rw [hml]; rfl) (argsL := [(.int nn), (.int p4)]) (rest := []) (lenOf pd_1 rfl) rfl (by show 2 * 0 + _ ≤ _; exact Nat.le_of_eq rfl) (hb hby at_108) (fun _ _ => ⟨rfl, e7, (by decide : 1 + 1 ≤ _), (by decide : 1 + 4 ≤ _)⟩)
        dsimp only [Pt.U, Pt.locs, Pt.cells, Pt.slots] at X8 l8 y8 z8 st8 hQ8
        subst l8 y8 z8
        obtain ⟨h8, e8⟩ : ∃ z, T8.heap = z := ⟨_, rfl⟩
        rw [e8] at hQ8
        obtain ⟨ar, rfl, Nq8, K8, sz_ar', Y8_0⟩ := hQ8
        have N8 := Fr.app N7 Nq8
        have ne_b6_ar : b6 ≠ ar := Nat.ne_of_lt (Nat.lt_of_lt_of_le A_b6.lt sz_ar')
        have g_ar : n0 ≤ ar := Nat.le_trans Zs_W7 sz_ar'
        replace A_b6 := A_b6.keep K8 nin0
        have A_ar : AL Z h8 ar .byte (own_bl p4 n) := Y8_0
        have Zs_8 : n0 ≤ _ := Nat.le_trans Zs_W7 K8.1
        refine own_via st8 ?_
        show OwnEnds p.tables e below _ (T8.setTop (mkF m 111 #[.val (.int p0), .val (.int p1), .val (.int p2), .val (.int p3), .val (.int p4), .val (.int mk), .val (.int a), .val (.int b), .val (.int lo), .val (.int hi), .val (.int tw), .val (.ref b6), .val (.int nn), .unset, .unset, .unset] [(.ref ar)]))
        refine own_via (fun t k => XS.astore X8.here hx rfl (hb hby at_111) rfl rfl (l' := #[.val (.int p0), .val (.int p1), .val (.int p2), .val (.int p3), .val (.int p4), .val (.int mk), .val (.int a), .val (.int b), .val (.int lo), .val (.int hi), .val (.int tw), .val (.ref b6), .val (.int nn), .val (.ref ar), .unset, .unset]) rfl k) ?_
        show OwnEnds p.tables e below _ (T8.setTop (mkF m 113 #[.val (.int p0), .val (.int p1), .val (.int p2), .val (.int p3), .val (.int p4), .val (.int mk), .val (.int a), .val (.int b), .val (.int lo), .val (.int hi), .val (.int tw), .val (.ref b6), .val (.int nn), .val (.ref ar), .unset, .unset] []))
        obtain ⟨T9, h9, X9, e9, E9, A9, D9, -, st9⟩ := newO X8 hx hZ hown (hw _ (List.mem_of_getElem? (i := 15) rfl)) (hw _ (List.mem_of_getElem? (i := 16) rfl)) (hw _ (List.mem_of_getElem? (i := 17) rfl)) e8 (g := (mkF m 113 #[.val (.int p0), .val (.int p1), .val (.int p2), .val (.int p3), .val (.int p4), .val (.int mk), .val (.int a), .val (.int b), .val (.int lo), .val (.int hi), .val (.int tw), .val (.ref b6), .val (.int nn), .val (.ref ar), .unset, .unset] [])) rfl (hb hby at_113) (by decide) (by decide)
        obtain ⟨b9, g9⟩ : ∃ z, z = h8.size := ⟨_, rfl⟩
        rw [← g9] at A9 D9 st9
        have ne_ar_b9 : ar ≠ b9 := Nat.ne_of_lt (Nat.lt_of_lt_of_le A_ar.lt (Nat.le_of_eq g9.symm))
        have ne_b6_b9 : b6 ≠ b9 := Nat.ne_of_lt (Nat.lt_of_lt_of_le A_b6.lt (Nat.le_of_eq g9.symm))
        have g_b9 : n0 ≤ b9 := Nat.le_trans Zs_8 (Nat.le_of_eq g9.symm)
        have Zs_9 : n0 ≤ _ := Nat.le_trans Zs_8 E9.1
        replace A_b6 := A_b6.ext E9
        replace A_ar := A_ar.ext E9
        have E_b9 := A9
        have F_index_b9 : Fld Z h9 b9 "com/example/crowd_cache/crowdcache/core/Bucket" "index" "J" (.long (0 : Int64)) := D9 (Or.inr (hw _ (List.mem_of_getElem? (i := 25) rfl))) (ty := .long) (by decide)
        have F_positions_b9 : Fld Z h9 b9 "com/example/crowd_cache/crowdcache/core/Bucket" "positions" "[I" .null := D9 (Or.inr (hw _ (List.mem_of_getElem? (i := 27) rfl))) (ty := (.array .int)) (by decide)
        refine own_via st9 ?_
        show OwnEnds p.tables e below _ (T9.setTop (mkF m 116 #[.val (.int p0), .val (.int p1), .val (.int p2), .val (.int p3), .val (.int p4), .val (.int mk), .val (.int a), .val (.int b), .val (.int lo), .val (.int hi), .val (.int tw), .val (.ref b6), .val (.int nn), .val (.ref ar), .unset, .unset] [(.ref b9)]))
        refine own_via (fun t k => XS.dup X9.here hx rfl (hb hby at_116) rfl rfl k) ?_
        show OwnEnds p.tables e below _ (T9.setTop (mkF m 117 #[.val (.int p0), .val (.int p1), .val (.int p2), .val (.int p3), .val (.int p4), .val (.int mk), .val (.int a), .val (.int b), .val (.int lo), .val (.int hi), .val (.int tw), .val (.ref b6), .val (.int nn), .val (.ref ar), .unset, .unset] [(.ref b9), (.ref b9)]))
        refine own_via (fun t k => XS.lconst X9.here hx rfl (hb hby at_117) k) ?_
        show OwnEnds p.tables e below _ (T9.setTop (mkF m 118 #[.val (.int p0), .val (.int p1), .val (.int p2), .val (.int p3), .val (.int p4), .val (.int mk), .val (.int a), .val (.int b), .val (.int lo), .val (.int hi), .val (.int tw), .val (.ref b6), .val (.int nn), .val (.ref ar), .unset, .unset] [(.long (0 : Int64)), (.ref b9), (.ref b9)]))
        refine own_via (fun t k => XS.aload X9.here hx rfl (hb hby at_118) rfl rfl k) ?_
        show OwnEnds p.tables e below _ (T9.setTop (mkF m 120 #[.val (.int p0), .val (.int p1), .val (.int p2), .val (.int p3), .val (.int p4), .val (.int mk), .val (.int a), .val (.int b), .val (.int lo), .val (.int hi), .val (.int tw), .val (.ref b6), .val (.int nn), .val (.ref ar), .unset, .unset] [(.ref b6), (.long (0 : Int64)), (.ref b9), (.ref b9)]))
        obtain ⟨_, _, ⟨T10, L10, k10, n10⟩, -, X10, ⟨Lc10, hQ10, l10, y10, z10⟩, st10⟩ := X9.specialBack hx (y := (⟨"com/example/crowd_cache/crowdcache/core/Bucket", "<init>", "(J[I)V"⟩ : MethodName)) rfl hown (mvT hZ (hw _ (List.mem_of_getElem? (i := 18) rfl))) (mvT hZ (hw _ (List.mem_of_getElem? (i := 19) rfl))) (mvT hZ (hw _ (List.mem_of_getElem? (i := 20) rfl))) (by decide) (backOf (W := 1) (rm4 l Z aw hw [] b9 (0 : Int64) b6 h9 n0 Zs_9 E_b9 F_index_b9 F_positions_b9 g_b9) hZ (hw _ (List.mem_of_getElem? (i := 20) rfl)) (hw _ (List.mem_of_getElem? (i := 17) rfl)) (by decide) (by decide)) (g := (mkF m 120 #[.val (.int p0), .val (.int p1), .val (.int p2), .val (.int p3), .val (.int p4), .val (.int mk), .val (.int a), .val (.int b), .val (.int lo), .val (.int hi), .val (.int tw), .val (.ref b6), .val (.int nn), .val (.ref ar), .unset, .unset] [(.ref b6), (.long (0 : Int64)), (.ref b9), (.ref b9)])) rfl (by rw [hml]; rfl) (Steps.refl _) (a := b9) (argsL := [(.long (0 : Int64)), (.ref b6)]) (rest := [(.ref b9)]) (lenOf pd_2 rfl) rfl (by show 2 * 0 + _ ≤ _; exact Nat.le_of_eq rfl) (hb hby at_120) (fun _ _ => ⟨rfl, e9, (by decide : 3 + 0 ≤ _), (by decide : 7 + 0 ≤ _)⟩)
        dsimp only [Pt.U, Pt.locs, Pt.cells, Pt.slots] at X10 l10 y10 z10 st10 hQ10
        subst l10 y10 z10
        obtain ⟨h10, e10⟩ : ∃ z, T10.heap = z := ⟨_, rfl⟩
        rw [e10] at hQ10
        obtain ⟨rfl, Nq10, K10, Y10_0, Y10_1, Y10_2⟩ := hQ10
        have N10 := Fr.app N8 Nq10
        replace A_b6 := A_b6.keep K10 (ninS ne_b6_b9 nin0)
        replace A_ar := A_ar.keep K10 (ninS ne_ar_b9 nin0)
        replace E_b9 := E_b9.keep K10
        have F_index_b9 : Fld Z h10 b9 "com/example/crowd_cache/crowdcache/core/Bucket" "index" "J" (.long (0 : Int64)) := Y10_1
        have F_positions_b9 : Fld Z h10 b9 "com/example/crowd_cache/crowdcache/core/Bucket" "positions" "[I" (.ref b6) := Y10_2
        have Zs_10 : n0 ≤ _ := Nat.le_trans Zs_9 K10.1
        refine own_of st10 ?_
        show OwnEnds p.tables e below _ (T10.setTop (mkF m 123 #[.val (.int p0), .val (.int p1), .val (.int p2), .val (.int p3), .val (.int p4), .val (.int mk), .val (.int a), .val (.int b), .val (.int lo), .val (.int hi), .val (.int tw), .val (.ref b6), .val (.int nn), .val (.ref ar), .unset, .unset] [(.ref b9)]))
        refine own_via (fun t k => XS.astore X10.here hx rfl (hb hby at_123) rfl rfl (l' := #[.val (.int p0), .val (.int p1), .val (.int p2), .val (.int p3), .val (.int p4), .val (.int mk), .val (.int a), .val (.int b), .val (.int lo), .val (.int hi), .val (.int tw), .val (.ref b6), .val (.int nn), .val (.ref ar), .val (.ref b9), .unset]) rfl k) ?_
        show OwnEnds p.tables e below _ (T10.setTop (mkF m 125 #[.val (.int p0), .val (.int p1), .val (.int p2), .val (.int p3), .val (.int p4), .val (.int mk), .val (.int a), .val (.int b), .val (.int lo), .val (.int hi), .val (.int tw), .val (.ref b6), .val (.int nn), .val (.ref ar), .val (.ref b9), .unset] []))
        refine own_via (fun t k => XS.aload X10.here hx rfl (hb hby at_125) rfl rfl k) ?_
        show OwnEnds p.tables e below _ (T10.setTop (mkF m 127 #[.val (.int p0), .val (.int p1), .val (.int p2), .val (.int p3), .val (.int p4), .val (.int mk), .val (.int a), .val (.int b), .val (.int lo), .val (.int hi), .val (.int tw), .val (.ref b6), .val (.int nn), .val (.ref ar), .val (.ref b9), .unset] [(.ref b9)]))
        refine own_via (fun t k => XS.aload X10.here hx rfl (hb hby at_127) rfl rfl k) ?_
        show OwnEnds p.tables e below _ (T10.setTop (mkF m 129 #[.val (.int p0), .val (.int p1), .val (.int p2), .val (.int p3), .val (.int p4), .val (.int mk), .val (.int a), .val (.int b), .val (.int lo), .val (.int hi), .val (.int tw), .val (.ref b6), .val (.int nn), .val (.ref ar), .val (.ref b9), .unset] [(.ref ar), (.ref b9)]))
        obtain ⟨cq11, kq11, q11a, q11b, q11c⟩ := isOf hZ e10 E_b9
        obtain ⟨_, _, ⟨T11, L11, k11, n11⟩, -, X11, ⟨Lc11, hQ11, l11, y11, z11⟩, st11⟩ := X10.virtualBack hx (y := (⟨"com/example/crowd_cache/crowdcache/core/Bucket", "foundIn", "([B)[Z"⟩ : MethodName)) (z := (⟨"com/example/crowd_cache/crowdcache/core/Bucket", "foundIn", "([B)[Z"⟩ : MethodName)) hown (mvT hZ (hw _ (List.mem_of_getElem? (i := 28) rfl))) (mvT hZ (hw _ (List.mem_of_getElem? (i := 29) rfl))) (notFace_of_selects (args := #[]) (mvT hZ (hw _ (List.mem_of_getElem? (i := 31) rfl)))) (mvT hZ (hw _ (List.mem_of_getElem? (i := 31) rfl))) (mvT hZ (hw _ (List.mem_of_getElem? (i := 30) rfl))) (by decide) (backOf (W := 0) (rm61 l Z aw hw [] b9 ar b6 p4 n nn a h10 n0 Zs_10 E_b9 F_positions_b9 A_b6 A_ar hn ha) hZ (hw _ (List.mem_of_getElem? (i := 32) rfl)) (hw _ (List.mem_of_getElem? (i := 17) rfl)) (by decide) (by decide)) q11a q11c (g := (mkF m 129 #[.val (.int p0), .val (.int p1), .val (.int p2), .val (.int p3), .val (.int p4), .val (.int mk), .val (.int a), .val (.int b), .val (.int lo), .val (.int hi), .val (.int tw), .val (.ref b6), .val (.int nn), .val (.ref ar), .val (.ref b9), .unset] [(.ref ar), (.ref b9)])) rfl (by rw [hml]; rfl) (Steps.refl _) (argsL := [(.ref ar)]) (rest := []) (lenOf pd_3 rfl) rfl (by show 2 * 0 + _ ≤ _; exact Nat.le_of_eq rfl) (hb hby at_129) (fun _ _ => ⟨rfl, e10, (by decide : 3 + 1 ≤ _), (by decide : 7 + 2 ≤ _)⟩)
        dsimp only [Pt.U, Pt.locs, Pt.cells, Pt.slots] at X11 l11 y11 z11 st11 hQ11
        subst l11 y11 z11
        obtain ⟨h11, e11⟩ : ∃ z, T11.heap = z := ⟨_, rfl⟩
        rw [e11] at hQ11
        obtain ⟨fb, rfl, Nq11, K11, sz_fb', Y11_0⟩ := hQ11
        have N11 := Fr.app N10 Nq11
        have ne_ar_fb : ar ≠ fb := Nat.ne_of_lt (Nat.lt_of_lt_of_le A_ar.lt sz_fb')
        have ne_b6_fb : b6 ≠ fb := Nat.ne_of_lt (Nat.lt_of_lt_of_le A_b6.lt sz_fb')
        have ne_b9_fb : b9 ≠ fb := Nat.ne_of_lt (Nat.lt_of_lt_of_le E_b9.lt sz_fb')
        have g_fb : n0 ≤ fb := Nat.le_trans Zs_10 sz_fb'
        replace A_b6 := A_b6.keep K11 nin0
        replace A_ar := A_ar.keep K11 nin0
        replace E_b9 := E_b9.keep K11
        replace F_index_b9 := F_index_b9.keep K11 nin0
        replace F_positions_b9 := F_positions_b9.keep K11 nin0
        have A_fb : AL Z h11 fb .boolean [(.int (nar .boolean (own_f a nn p4)))] := Y11_0
        have Zs_11 : n0 ≤ _ := Nat.le_trans Zs_10 K11.1
        refine own_of st11 ?_
        show OwnEnds p.tables e below _ (T11.setTop (mkF m 132 #[.val (.int p0), .val (.int p1), .val (.int p2), .val (.int p3), .val (.int p4), .val (.int mk), .val (.int a), .val (.int b), .val (.int lo), .val (.int hi), .val (.int tw), .val (.ref b6), .val (.int nn), .val (.ref ar), .val (.ref b9), .unset] [(.ref fb)]))
        refine own_via (fun t k => XS.astore X11.here hx rfl (hb hby at_132) rfl rfl (l' := #[.val (.int p0), .val (.int p1), .val (.int p2), .val (.int p3), .val (.int p4), .val (.int mk), .val (.int a), .val (.int b), .val (.int lo), .val (.int hi), .val (.int tw), .val (.ref b6), .val (.int nn), .val (.ref ar), .val (.ref b9), .val (.ref fb)]) rfl k) ?_
        show OwnEnds p.tables e below _ (T11.setTop (mkF m 134 #[.val (.int p0), .val (.int p1), .val (.int p2), .val (.int p3), .val (.int p4), .val (.int mk), .val (.int a), .val (.int b), .val (.int lo), .val (.int hi), .val (.int tw), .val (.ref b6), .val (.int nn), .val (.ref ar), .val (.ref b9), .val (.ref fb)] []))
        refine own_via (fun t k => XS.iload X11.here hx rfl (hb hby at_134) rfl k) ?_
        show OwnEnds p.tables e below _ (T11.setTop (mkF m 136 #[.val (.int p0), .val (.int p1), .val (.int p2), .val (.int p3), .val (.int p4), .val (.int mk), .val (.int a), .val (.int b), .val (.int lo), .val (.int hi), .val (.int tw), .val (.ref b6), .val (.int nn), .val (.ref ar), .val (.ref b9), .val (.ref fb)] [(.int tw)]))
        have hc136_12 : tw = (0 : Int32) := hc67_5
        refine own_via (fun t k => XS.ifYes X11.here hx rfl (pc0 := 136) (pc' := 184) rfl (hb hby at_136) rfl ((if0 _ _).trans (teq hc136_12).1) (by decide) (by decide) k) ?_
        show OwnEnds p.tables e below _ (T11.setTop (mkF m 184 #[.val (.int p0), .val (.int p1), .val (.int p2), .val (.int p3), .val (.int p4), .val (.int mk), .val (.int a), .val (.int b), .val (.int lo), .val (.int hi), .val (.int tw), .val (.ref b6), .val (.int nn), .val (.ref ar), .val (.ref b9), .val (.ref fb)] []))
        refine own_via (fun t k => XS.aload X11.here hx rfl (hb hby at_184) rfl rfl k) ?_
        show OwnEnds p.tables e below _ (T11.setTop (mkF m 186 #[.val (.int p0), .val (.int p1), .val (.int p2), .val (.int p3), .val (.int p4), .val (.int mk), .val (.int a), .val (.int b), .val (.int lo), .val (.int hi), .val (.int tw), .val (.ref b6), .val (.int nn), .val (.ref ar), .val (.ref b9), .val (.ref fb)] [(.ref fb)]))
        refine own_via (own_len X11 hx hZ e11 A_fb (z := (1 : Int32)) rfl (g := (mkF m 186 #[.val (.int p0), .val (.int p1), .val (.int p2), .val (.int p3), .val (.int p4), .val (.int mk), .val (.int a), .val (.int b), .val (.int lo), .val (.int hi), .val (.int tw), .val (.ref b6), .val (.int nn), .val (.ref ar), .val (.ref b9), .val (.ref fb)] [(.ref fb)])) rfl rfl (hb hby at_186)) ?_
        show OwnEnds p.tables e below _ (T11.setTop (mkF m 187 #[.val (.int p0), .val (.int p1), .val (.int p2), .val (.int p3), .val (.int p4), .val (.int mk), .val (.int a), .val (.int b), .val (.int lo), .val (.int hi), .val (.int tw), .val (.ref b6), .val (.int nn), .val (.ref ar), .val (.ref b9), .val (.ref fb)] [(.int (1 : Int32))]))
        refine own_via (fun t k => XS.iconst X11.here hx rfl (hb hby at_187) k) ?_
        show OwnEnds p.tables e below _ (T11.setTop (mkF m 188 #[.val (.int p0), .val (.int p1), .val (.int p2), .val (.int p3), .val (.int p4), .val (.int mk), .val (.int a), .val (.int b), .val (.int lo), .val (.int hi), .val (.int tw), .val (.ref b6), .val (.int nn), .val (.ref ar), .val (.ref b9), .val (.ref fb)] [(.int (1 : Int32)), (.int (1 : Int32))]))
        have hc188_13 : (1 : Int32) = (1 : Int32) := by decide
        refine own_via (fun t k => XS.icmpNo X11.here hx rfl (hb hby at_188) rfl (teq hc188_13).2 k) ?_
        show OwnEnds p.tables e below _ (T11.setTop (mkF m 191 #[.val (.int p0), .val (.int p1), .val (.int p2), .val (.int p3), .val (.int p4), .val (.int mk), .val (.int a), .val (.int b), .val (.int lo), .val (.int hi), .val (.int tw), .val (.ref b6), .val (.int nn), .val (.ref ar), .val (.ref b9), .val (.ref fb)] []))
        refine own_via (fun t k => XS.aload X11.here hx rfl (hb hby at_191) rfl rfl k) ?_
        show OwnEnds p.tables e below _ (T11.setTop (mkF m 193 #[.val (.int p0), .val (.int p1), .val (.int p2), .val (.int p3), .val (.int p4), .val (.int mk), .val (.int a), .val (.int b), .val (.int lo), .val (.int hi), .val (.int tw), .val (.ref b6), .val (.int nn), .val (.ref ar), .val (.ref b9), .val (.ref fb)] [(.ref fb)]))
        refine own_via (fun t k => XS.iconst X11.here hx rfl (hb hby at_193) k) ?_
        show OwnEnds p.tables e below _ (T11.setTop (mkF m 194 #[.val (.int p0), .val (.int p1), .val (.int p2), .val (.int p3), .val (.int p4), .val (.int mk), .val (.int a), .val (.int b), .val (.int lo), .val (.int hi), .val (.int tw), .val (.ref b6), .val (.int nn), .val (.ref ar), .val (.ref b9), .val (.ref fb)] [(.int (0 : Int32)), (.ref fb)]))
        refine own_via (own_ldZ X11 hx hZ e11 A_fb (v := (.int (nar .boolean (own_f a nn p4)))) 0 rfl rfl (g := (mkF m 194 #[.val (.int p0), .val (.int p1), .val (.int p2), .val (.int p3), .val (.int p4), .val (.int mk), .val (.int a), .val (.int b), .val (.int lo), .val (.int hi), .val (.int tw), .val (.ref b6), .val (.int nn), .val (.ref ar), .val (.ref b9), .val (.ref fb)] [(.int (0 : Int32)), (.ref fb)])) rfl rfl (hb hby at_194)) ?_
        show OwnEnds p.tables e below _ (T11.setTop (mkF m 195 #[.val (.int p0), .val (.int p1), .val (.int p2), .val (.int p3), .val (.int p4), .val (.int mk), .val (.int a), .val (.int b), .val (.int lo), .val (.int hi), .val (.int tw), .val (.ref b6), .val (.int nn), .val (.ref ar), .val (.ref b9), .val (.ref fb)] [(.int (nar .boolean (own_f a nn p4)))]))
        refine own_via (fun t k => XS.iload X11.here hx rfl (hb hby at_195) rfl k) ?_
        show OwnEnds p.tables e below _ (T11.setTop (mkF m 197 #[.val (.int p0), .val (.int p1), .val (.int p2), .val (.int p3), .val (.int p4), .val (.int mk), .val (.int a), .val (.int b), .val (.int lo), .val (.int hi), .val (.int tw), .val (.ref b6), .val (.int nn), .val (.ref ar), .val (.ref b9), .val (.ref fb)] [(.int a), (.int (nar .boolean (own_f a nn p4)))]))
        refine own_via (fun t k => XS.iload X11.here hx rfl (hb hby at_197) rfl k) ?_
        show OwnEnds p.tables e below _ (T11.setTop (mkF m 199 #[.val (.int p0), .val (.int p1), .val (.int p2), .val (.int p3), .val (.int p4), .val (.int mk), .val (.int a), .val (.int b), .val (.int lo), .val (.int hi), .val (.int tw), .val (.ref b6), .val (.int nn), .val (.ref ar), .val (.ref b9), .val (.ref fb)] [(.int nn), (.int a), (.int (nar .boolean (own_f a nn p4)))]))
        refine own_via (fun t k => XS.iload X11.here hx rfl (hb hby at_199) rfl k) ?_
        show OwnEnds p.tables e below _ (T11.setTop (mkF m 201 #[.val (.int p0), .val (.int p1), .val (.int p2), .val (.int p3), .val (.int p4), .val (.int mk), .val (.int a), .val (.int b), .val (.int lo), .val (.int hi), .val (.int tw), .val (.ref b6), .val (.int nn), .val (.ref ar), .val (.ref b9), .val (.ref fb)] [(.int p4), (.int nn), (.int a), (.int (nar .boolean (own_f a nn p4)))]))
        obtain ⟨_, _, ⟨T14, L14, k14, n14⟩, -, X14, ⟨Lc14, hQ14, l14, y14, z14⟩, st14⟩ := Jvm.LawKit.callS X11 hx (y := (⟨"com/example/crowd_cache/crowdcache/core/BucketFoundInPinLaw", "ref", "(III)Z"⟩ : MethodName)) hown (mvT hZ (hw _ (List.mem_of_getElem? (i := 34) rfl))) (mvT hZ (hw _ (List.mem_of_getElem? (i := 35) rfl))) (mvT hZ (hw _ (List.mem_of_getElem? (i := 12) rfl))) (mvT hZ (hw _ (List.mem_of_getElem? (i := 36) rfl))) (by decide) (backOf (W := 1) (rm7 l Z aw hw [] a nn p4 h11 n0 Zs_11 ) hZ (hw _ (List.mem_of_getElem? (i := 36) rfl)) (hw _ (List.mem_of_getElem? (i := 12) rfl)) (by decide) (by decide)) (g := (mkF m 201 #[.val (.int p0), .val (.int p1), .val (.int p2), .val (.int p3), .val (.int p4), .val (.int mk), .val (.int a), .val (.int b), .val (.int lo), .val (.int hi), .val (.int tw), .val (.ref b6), .val (.int nn), .val (.ref ar), .val (.ref b9), .val (.ref fb)] [(.int p4), (.int nn), (.int a), (.int (nar .boolean (own_f a nn p4)))])) rfl (by rw [hml]; rfl) (argsL := [(.int a), (.int nn), (.int p4)]) (rest := [(.int (nar .boolean (own_f a nn p4)))]) (lenOf pd_4 rfl) rfl (by show 2 * 0 + _ ≤ _; exact Nat.le_of_eq rfl) (hb hby at_201) (fun _ _ => ⟨rfl, e11, (by decide : 4 + 0 ≤ _), (by decide : 9 + 0 ≤ _)⟩)
        dsimp only [Pt.U, Pt.locs, Pt.cells, Pt.slots] at X14 l14 y14 z14 st14 hQ14
        subst l14 y14 z14
        obtain ⟨rfl, Nq14, e14⟩ := hQ14
        have N14 := Fr.app N11 Nq14
        replace e14 : T14.heap = h11 := e14
        refine own_via st14 ?_
        show OwnEnds p.tables e below _ (T14.setTop (mkF m 204 #[.val (.int p0), .val (.int p1), .val (.int p2), .val (.int p3), .val (.int p4), .val (.int mk), .val (.int a), .val (.int b), .val (.int lo), .val (.int hi), .val (.int tw), .val (.ref b6), .val (.int nn), .val (.ref ar), .val (.ref b9), .val (.ref fb)] [(.int (own_ref a nn p4)), (.int (nar .boolean (own_f a nn p4)))]))
        have hc204_15 : (nar .boolean (own_f a nn p4)) = (own_ref a nn p4) := own_eq ha hnn4
        refine own_via (fun t k => XS.icmpNo X14.here hx rfl (hb hby at_204) rfl (teq hc204_15).2 k) ?_
        show OwnEnds p.tables e below _ (T14.setTop (mkF m 207 #[.val (.int p0), .val (.int p1), .val (.int p2), .val (.int p3), .val (.int p4), .val (.int mk), .val (.int a), .val (.int b), .val (.int lo), .val (.int hi), .val (.int tw), .val (.ref b6), .val (.int nn), .val (.ref ar), .val (.ref b9), .val (.ref fb)] []))
        refine own_via (fun t k => XS.iconst X14.here hx rfl (hb hby at_207) k) ?_
        show OwnEnds p.tables e below _ (T14.setTop (mkF m 208 #[.val (.int p0), .val (.int p1), .val (.int p2), .val (.int p3), .val (.int p4), .val (.int mk), .val (.int a), .val (.int b), .val (.int lo), .val (.int hi), .val (.int tw), .val (.ref b6), .val (.int nn), .val (.ref ar), .val (.ref b9), .val (.ref fb)] [(.int (1 : Int32))]))
        refine own_via (fun t k => XS.goto X14.here hx rfl (pc0 := 208) (pc' := 212) rfl (hb hby at_208) (by decide) (by decide) k) ?_
        show OwnEnds p.tables e below _ (T14.setTop (mkF m 212 #[.val (.int p0), .val (.int p1), .val (.int p2), .val (.int p3), .val (.int p4), .val (.int mk), .val (.int a), .val (.int b), .val (.int lo), .val (.int hi), .val (.int tw), .val (.ref b6), .val (.int nn), .val (.ref ar), .val (.ref b9), .val (.ref fb)] [(.int (1 : Int32))]))
        refine own_retN (t := .boolean) X14 hx Bd.returns (by simp) hlk (hb hby at_212) ?_ (by decide) (by decide)
        rw [e14]
        exact ⟨rfl, N14⟩
      · skip
        refine own_via (fun t k => XS.ifNo X3.here hx rfl (hb hby at_67) rfl ((if0 _ _).trans (feq hc67_5).1) k) ?_
        show OwnEnds p.tables e below _ (T3.setTop (mkF m 70 #[.val (.int p0), .val (.int p1), .val (.int p2), .val (.int p3), .val (.int p4), .val (.int mk), .val (.int a), .val (.int b), .val (.int lo), .val (.int hi), .val (.int tw), .unset, .unset, .unset, .unset, .unset] []))
        refine own_via (fun t k => XS.iconst X3.here hx rfl (hb hby at_70) k) ?_
        show OwnEnds p.tables e below _ (T3.setTop (mkF m 71 #[.val (.int p0), .val (.int p1), .val (.int p2), .val (.int p3), .val (.int p4), .val (.int mk), .val (.int a), .val (.int b), .val (.int lo), .val (.int hi), .val (.int tw), .unset, .unset, .unset, .unset, .unset] [(.int (2 : Int32))]))
        obtain ⟨T16, h16, k16, X16, e16, E16, A16, st16⟩ := newP X3 hx hZ (hw _ (List.mem_of_getElem? (i := 8) rfl)) e3 (g := (mkF m 71 #[.val (.int p0), .val (.int p1), .val (.int p2), .val (.int p3), .val (.int p4), .val (.int mk), .val (.int a), .val (.int b), .val (.int lo), .val (.int hi), .val (.int tw), .unset, .unset, .unset, .unset, .unset] [(.int (2 : Int32))])) rfl (hb hby at_71) rfl (by decide) (cap := 2) (by decide) (by decide) (by decide) (by decide)
        obtain ⟨b16, g16⟩ : ∃ z, z = h0.size := ⟨_, rfl⟩
        rw [← g16] at A16 st16
        have g_b16 : n0 ≤ b16 := Nat.le_trans Z0 (Nat.le_of_eq g16.symm)
        have Zs_16 : n0 ≤ _ := Nat.le_trans Z0 E16.1
        have A_b16 : AL Z h16 b16 .int [(.int (0 : Int32)), (.int (0 : Int32))] := AL.new A16 (by decide) (i := 2) rfl
        refine own_via st16 ?_
        show OwnEnds p.tables e below _ (T16.setTop (mkF m 73 #[.val (.int p0), .val (.int p1), .val (.int p2), .val (.int p3), .val (.int p4), .val (.int mk), .val (.int a), .val (.int b), .val (.int lo), .val (.int hi), .val (.int tw), .unset, .unset, .unset, .unset, .unset] [(.ref b16)]))
        refine own_via (fun t k => XS.dup X16.here hx rfl (hb hby at_73) rfl rfl k) ?_
        show OwnEnds p.tables e below _ (T16.setTop (mkF m 74 #[.val (.int p0), .val (.int p1), .val (.int p2), .val (.int p3), .val (.int p4), .val (.int mk), .val (.int a), .val (.int b), .val (.int lo), .val (.int hi), .val (.int tw), .unset, .unset, .unset, .unset, .unset] [(.ref b16), (.ref b16)]))
        refine own_via (fun t k => XS.iconst X16.here hx rfl (hb hby at_74) k) ?_
        show OwnEnds p.tables e below _ (T16.setTop (mkF m 75 #[.val (.int p0), .val (.int p1), .val (.int p2), .val (.int p3), .val (.int p4), .val (.int mk), .val (.int a), .val (.int b), .val (.int lo), .val (.int hi), .val (.int tw), .unset, .unset, .unset, .unset, .unset] [(.int (0 : Int32)), (.ref b16), (.ref b16)]))
        refine own_via (fun t k => XS.iload X16.here hx rfl (hb hby at_75) rfl k) ?_
        show OwnEnds p.tables e below _ (T16.setTop (mkF m 77 #[.val (.int p0), .val (.int p1), .val (.int p2), .val (.int p3), .val (.int p4), .val (.int mk), .val (.int a), .val (.int b), .val (.int lo), .val (.int hi), .val (.int tw), .unset, .unset, .unset, .unset, .unset] [(.int lo), (.int (0 : Int32)), (.ref b16), (.ref b16)]))
        obtain ⟨T17, h17, X17, e17, W17, AA17, st17⟩ := own_stI X16 hx hZ e16 A_b16 0 rfl (Nat.le_of_ble_eq_true rfl) (g := (mkF m 77 #[.val (.int p0), .val (.int p1), .val (.int p2), .val (.int p3), .val (.int p4), .val (.int mk), .val (.int a), .val (.int b), .val (.int lo), .val (.int hi), .val (.int tw), .unset, .unset, .unset, .unset, .unset] [(.int lo), (.int (0 : Int32)), (.ref b16), (.ref b16)])) rfl rfl (hb hby at_77)
        have Zs_W17 : n0 ≤ _ := Nat.le_trans Zs_16 (Keep.of_wr W17).1
        replace A_b16 : AL Z h17 b16 .int [(.int lo), (.int (0 : Int32))] := AA17
        have N17 := Fr.snoc X17 N3 g_b16
        refine own_via st17 ?_
        show OwnEnds p.tables e below _ (T17.setTop (mkF m 78 #[.val (.int p0), .val (.int p1), .val (.int p2), .val (.int p3), .val (.int p4), .val (.int mk), .val (.int a), .val (.int b), .val (.int lo), .val (.int hi), .val (.int tw), .unset, .unset, .unset, .unset, .unset] [(.ref b16)]))
        refine own_via (fun t k => XS.dup X17.here hx rfl (hb hby at_78) rfl rfl k) ?_
        show OwnEnds p.tables e below _ (T17.setTop (mkF m 79 #[.val (.int p0), .val (.int p1), .val (.int p2), .val (.int p3), .val (.int p4), .val (.int mk), .val (.int a), .val (.int b), .val (.int lo), .val (.int hi), .val (.int tw), .unset, .unset, .unset, .unset, .unset] [(.ref b16), (.ref b16)]))
        refine own_via (fun t k => XS.iconst X17.here hx rfl (hb hby at_79) k) ?_
        show OwnEnds p.tables e below _ (T17.setTop (mkF m 80 #[.val (.int p0), .val (.int p1), .val (.int p2), .val (.int p3), .val (.int p4), .val (.int mk), .val (.int a), .val (.int b), .val (.int lo), .val (.int hi), .val (.int tw), .unset, .unset, .unset, .unset, .unset] [(.int (1 : Int32)), (.ref b16), (.ref b16)]))
        refine own_via (fun t k => XS.iload X17.here hx rfl (hb hby at_80) rfl k) ?_
        show OwnEnds p.tables e below _ (T17.setTop (mkF m 82 #[.val (.int p0), .val (.int p1), .val (.int p2), .val (.int p3), .val (.int p4), .val (.int mk), .val (.int a), .val (.int b), .val (.int lo), .val (.int hi), .val (.int tw), .unset, .unset, .unset, .unset, .unset] [(.int hi), (.int (1 : Int32)), (.ref b16), (.ref b16)]))
        obtain ⟨T18, h18, X18, e18, W18, AA18, st18⟩ := own_stI X17 hx hZ e17 A_b16 1 rfl (Nat.le_of_ble_eq_true rfl) (g := (mkF m 82 #[.val (.int p0), .val (.int p1), .val (.int p2), .val (.int p3), .val (.int p4), .val (.int mk), .val (.int a), .val (.int b), .val (.int lo), .val (.int hi), .val (.int tw), .unset, .unset, .unset, .unset, .unset] [(.int hi), (.int (1 : Int32)), (.ref b16), (.ref b16)])) rfl rfl (hb hby at_82)
        have Zs_W18 : n0 ≤ _ := Nat.le_trans Zs_W17 (Keep.of_wr W18).1
        replace A_b16 : AL Z h18 b16 .int [(.int lo), (.int hi)] := AA18
        have N18 := Fr.snoc X18 N17 g_b16
        refine own_via st18 ?_
        show OwnEnds p.tables e below _ (T18.setTop (mkF m 83 #[.val (.int p0), .val (.int p1), .val (.int p2), .val (.int p3), .val (.int p4), .val (.int mk), .val (.int a), .val (.int b), .val (.int lo), .val (.int hi), .val (.int tw), .unset, .unset, .unset, .unset, .unset] [(.ref b16)]))
        refine own_via (fun t k => XS.goto X18.here hx rfl (pc0 := 83) (pc' := 94) rfl (hb hby at_83) (by decide) (by decide) k) ?_
        show OwnEnds p.tables e below _ (T18.setTop (mkF m 94 #[.val (.int p0), .val (.int p1), .val (.int p2), .val (.int p3), .val (.int p4), .val (.int mk), .val (.int a), .val (.int b), .val (.int lo), .val (.int hi), .val (.int tw), .unset, .unset, .unset, .unset, .unset] [(.ref b16)]))
        refine own_via (fun t k => XS.astore X18.here hx rfl (hb hby at_94) rfl rfl (l' := #[.val (.int p0), .val (.int p1), .val (.int p2), .val (.int p3), .val (.int p4), .val (.int mk), .val (.int a), .val (.int b), .val (.int lo), .val (.int hi), .val (.int tw), .val (.ref b16), .unset, .unset, .unset, .unset]) rfl k) ?_
        show OwnEnds p.tables e below _ (T18.setTop (mkF m 96 #[.val (.int p0), .val (.int p1), .val (.int p2), .val (.int p3), .val (.int p4), .val (.int mk), .val (.int a), .val (.int b), .val (.int lo), .val (.int hi), .val (.int tw), .val (.ref b16), .unset, .unset, .unset, .unset] []))
        refine own_via (fun t k => XS.iloadN X18.here hx rfl (hb hby at_96) rfl k) ?_
        show OwnEnds p.tables e below _ (T18.setTop (mkF m 97 #[.val (.int p0), .val (.int p1), .val (.int p2), .val (.int p3), .val (.int p4), .val (.int mk), .val (.int a), .val (.int b), .val (.int lo), .val (.int hi), .val (.int tw), .val (.ref b16), .unset, .unset, .unset, .unset] [(.int p3)]))
        refine own_via (X18.ldcInt hx hown (mvT hZ (hw _ (List.mem_of_getElem? (i := 9) rfl))) (g := (mkF m 97 #[.val (.int p0), .val (.int p1), .val (.int p2), .val (.int p3), .val (.int p4), .val (.int mk), .val (.int a), .val (.int b), .val (.int lo), .val (.int hi), .val (.int tw), .val (.ref b16), .unset, .unset, .unset, .unset] [(.int p3)])) rfl (hb hby at_97)) ?_
        show OwnEnds p.tables e below _ (T18.setTop (mkF m 99 #[.val (.int p0), .val (.int p1), .val (.int p2), .val (.int p3), .val (.int p4), .val (.int mk), .val (.int a), .val (.int b), .val (.int lo), .val (.int hi), .val (.int tw), .val (.ref b16), .unset, .unset, .unset, .unset] [(.int (2147483647 : Int32)), (.int p3)]))
        refine own_via (fun t k => XS.iand X18.here hx rfl (hb hby at_99) rfl k) ?_
        show OwnEnds p.tables e below _ (T18.setTop (mkF m 100 #[.val (.int p0), .val (.int p1), .val (.int p2), .val (.int p3), .val (.int p4), .val (.int mk), .val (.int a), .val (.int b), .val (.int lo), .val (.int hi), .val (.int tw), .val (.ref b16), .unset, .unset, .unset, .unset] [(.int (p3 &&& (2147483647 : Int32)))]))
        refine own_via (fun t k => XS.iconst X18.here hx rfl (hb hby at_100) k) ?_
        show OwnEnds p.tables e below _ (T18.setTop (mkF m 101 #[.val (.int p0), .val (.int p1), .val (.int p2), .val (.int p3), .val (.int p4), .val (.int mk), .val (.int a), .val (.int b), .val (.int lo), .val (.int hi), .val (.int tw), .val (.ref b16), .unset, .unset, .unset, .unset] [(.int (5 : Int32)), (.int (p3 &&& (2147483647 : Int32)))]))
        refine own_via (fun t k => Jvm.RoadKit.iremM X18 hx rfl (hb hby at_101) rfl (by decide) k) ?_
        show OwnEnds p.tables e below _ (T18.setTop (mkF m 102 #[.val (.int p0), .val (.int p1), .val (.int p2), .val (.int p3), .val (.int p4), .val (.int mk), .val (.int a), .val (.int b), .val (.int lo), .val (.int hi), .val (.int tw), .val (.ref b16), .unset, .unset, .unset, .unset] [(.int ((p3 &&& (2147483647 : Int32)) % (5 : Int32)))]))
        obtain ⟨nn, h_nn⟩ : ∃ z, z = ((p3 &&& (2147483647 : Int32)) % (5 : Int32)) := ⟨_, rfl⟩
        rw [← h_nn]
        obtain ⟨n, hn, hn4⟩ := own_nn h_nn
        have hnn4 : nn.toInt ≤ 4 := by omega
        refine own_via (fun t k => XS.istore X18.here hx rfl (hb hby at_102) rfl (l' := #[.val (.int p0), .val (.int p1), .val (.int p2), .val (.int p3), .val (.int p4), .val (.int mk), .val (.int a), .val (.int b), .val (.int lo), .val (.int hi), .val (.int tw), .val (.ref b16), .val (.int nn), .unset, .unset, .unset]) rfl k) ?_
        show OwnEnds p.tables e below _ (T18.setTop (mkF m 104 #[.val (.int p0), .val (.int p1), .val (.int p2), .val (.int p3), .val (.int p4), .val (.int mk), .val (.int a), .val (.int b), .val (.int lo), .val (.int hi), .val (.int tw), .val (.ref b16), .val (.int nn), .unset, .unset, .unset] []))
        refine own_via (fun t k => XS.iload X18.here hx rfl (hb hby at_104) rfl k) ?_
        show OwnEnds p.tables e below _ (T18.setTop (mkF m 106 #[.val (.int p0), .val (.int p1), .val (.int p2), .val (.int p3), .val (.int p4), .val (.int mk), .val (.int a), .val (.int b), .val (.int lo), .val (.int hi), .val (.int tw), .val (.ref b16), .val (.int nn), .unset, .unset, .unset] [(.int nn)]))
        refine own_via (fun t k => XS.iload X18.here hx rfl (hb hby at_106) rfl k) ?_
        show OwnEnds p.tables e below _ (T18.setTop (mkF m 108 #[.val (.int p0), .val (.int p1), .val (.int p2), .val (.int p3), .val (.int p4), .val (.int mk), .val (.int a), .val (.int b), .val (.int lo), .val (.int hi), .val (.int tw), .val (.ref b16), .val (.int nn), .unset, .unset, .unset] [(.int p4), (.int nn)]))
        obtain ⟨_, _, ⟨T19, L19, k19, n19⟩, -, X19, ⟨Lc19, hQ19, l19, y19, z19⟩, st19⟩ := Jvm.LawKit.callS X18 hx (y := (⟨"com/example/crowd_cache/crowdcache/core/BucketFoundInPinLaw", "make", "(II)[B"⟩ : MethodName)) hown (mvT hZ (hw _ (List.mem_of_getElem? (i := 10) rfl))) (mvT hZ (hw _ (List.mem_of_getElem? (i := 11) rfl))) (mvT hZ (hw _ (List.mem_of_getElem? (i := 12) rfl))) (mvT hZ (hw _ (List.mem_of_getElem? (i := 13) rfl))) (by decide) (backOf (W := 0) (rm3 l Z aw hw [] nn p4 n h18 n0 Zs_W18 hn hn4) hZ (hw _ (List.mem_of_getElem? (i := 13) rfl)) (hw _ (List.mem_of_getElem? (i := 12) rfl)) (by decide) (by decide)) (g := (mkF m 108 #[.val (.int p0), .val (.int p1), .val (.int p2), .val (.int p3), .val (.int p4), .val (.int mk), .val (.int a), .val (.int b), .val (.int lo), .val (.int hi), .val (.int tw), .val (.ref b16), .val (.int nn), .unset, .unset, .unset] [(.int p4), (.int nn)])) rfl (by rw [hml]; rfl) (argsL := [(.int nn), (.int p4)]) (rest := []) (lenOf pd_1 rfl) rfl (by show 2 * 0 + _ ≤ _; exact Nat.le_of_eq rfl) (hb hby at_108) (fun _ _ => ⟨rfl, e18, (by decide : 1 + 1 ≤ _), (by decide : 2 + 4 ≤ _)⟩)
        dsimp only [Pt.U, Pt.locs, Pt.cells, Pt.slots] at X19 l19 y19 z19 st19 hQ19
        subst l19 y19 z19
        obtain ⟨h19, e19⟩ : ∃ z, T19.heap = z := ⟨_, rfl⟩
        rw [e19] at hQ19
        obtain ⟨ar, rfl, Nq19, K19, sz_ar', Y19_0⟩ := hQ19
        have N19 := Fr.app N18 Nq19
        have ne_b16_ar : b16 ≠ ar := Nat.ne_of_lt (Nat.lt_of_lt_of_le A_b16.lt sz_ar')
        have g_ar : n0 ≤ ar := Nat.le_trans Zs_W18 sz_ar'
        replace A_b16 := A_b16.keep K19 nin0
        have A_ar : AL Z h19 ar .byte (own_bl p4 n) := Y19_0
        have Zs_19 : n0 ≤ _ := Nat.le_trans Zs_W18 K19.1
        refine own_via st19 ?_
        show OwnEnds p.tables e below _ (T19.setTop (mkF m 111 #[.val (.int p0), .val (.int p1), .val (.int p2), .val (.int p3), .val (.int p4), .val (.int mk), .val (.int a), .val (.int b), .val (.int lo), .val (.int hi), .val (.int tw), .val (.ref b16), .val (.int nn), .unset, .unset, .unset] [(.ref ar)]))
        refine own_via (fun t k => XS.astore X19.here hx rfl (hb hby at_111) rfl rfl (l' := #[.val (.int p0), .val (.int p1), .val (.int p2), .val (.int p3), .val (.int p4), .val (.int mk), .val (.int a), .val (.int b), .val (.int lo), .val (.int hi), .val (.int tw), .val (.ref b16), .val (.int nn), .val (.ref ar), .unset, .unset]) rfl k) ?_
        show OwnEnds p.tables e below _ (T19.setTop (mkF m 113 #[.val (.int p0), .val (.int p1), .val (.int p2), .val (.int p3), .val (.int p4), .val (.int mk), .val (.int a), .val (.int b), .val (.int lo), .val (.int hi), .val (.int tw), .val (.ref b16), .val (.int nn), .val (.ref ar), .unset, .unset] []))
        obtain ⟨T20, h20, X20, e20, E20, A20, D20, -, st20⟩ := newO X19 hx hZ hown (hw _ (List.mem_of_getElem? (i := 15) rfl)) (hw _ (List.mem_of_getElem? (i := 16) rfl)) (hw _ (List.mem_of_getElem? (i := 17) rfl)) e19 (g := (mkF m 113 #[.val (.int p0), .val (.int p1), .val (.int p2), .val (.int p3), .val (.int p4), .val (.int mk), .val (.int a), .val (.int b), .val (.int lo), .val (.int hi), .val (.int tw), .val (.ref b16), .val (.int nn), .val (.ref ar), .unset, .unset] [])) rfl (hb hby at_113) (by decide) (by decide)
        obtain ⟨b20, g20⟩ : ∃ z, z = h19.size := ⟨_, rfl⟩
        rw [← g20] at A20 D20 st20
        have ne_ar_b20 : ar ≠ b20 := Nat.ne_of_lt (Nat.lt_of_lt_of_le A_ar.lt (Nat.le_of_eq g20.symm))
        have ne_b16_b20 : b16 ≠ b20 := Nat.ne_of_lt (Nat.lt_of_lt_of_le A_b16.lt (Nat.le_of_eq g20.symm))
        have g_b20 : n0 ≤ b20 := Nat.le_trans Zs_19 (Nat.le_of_eq g20.symm)
        have Zs_20 : n0 ≤ _ := Nat.le_trans Zs_19 E20.1
        replace A_b16 := A_b16.ext E20
        replace A_ar := A_ar.ext E20
        have E_b20 := A20
        have F_index_b20 : Fld Z h20 b20 "com/example/crowd_cache/crowdcache/core/Bucket" "index" "J" (.long (0 : Int64)) := D20 (Or.inr (hw _ (List.mem_of_getElem? (i := 25) rfl))) (ty := .long) (by decide)
        have F_positions_b20 : Fld Z h20 b20 "com/example/crowd_cache/crowdcache/core/Bucket" "positions" "[I" .null := D20 (Or.inr (hw _ (List.mem_of_getElem? (i := 27) rfl))) (ty := (.array .int)) (by decide)
        refine own_via st20 ?_
        show OwnEnds p.tables e below _ (T20.setTop (mkF m 116 #[.val (.int p0), .val (.int p1), .val (.int p2), .val (.int p3), .val (.int p4), .val (.int mk), .val (.int a), .val (.int b), .val (.int lo), .val (.int hi), .val (.int tw), .val (.ref b16), .val (.int nn), .val (.ref ar), .unset, .unset] [(.ref b20)]))
        refine own_via (fun t k => XS.dup X20.here hx rfl (hb hby at_116) rfl rfl k) ?_
        show OwnEnds p.tables e below _ (T20.setTop (mkF m 117 #[.val (.int p0), .val (.int p1), .val (.int p2), .val (.int p3), .val (.int p4), .val (.int mk), .val (.int a), .val (.int b), .val (.int lo), .val (.int hi), .val (.int tw), .val (.ref b16), .val (.int nn), .val (.ref ar), .unset, .unset] [(.ref b20), (.ref b20)]))
        refine own_via (fun t k => XS.lconst X20.here hx rfl (hb hby at_117) k) ?_
        show OwnEnds p.tables e below _ (T20.setTop (mkF m 118 #[.val (.int p0), .val (.int p1), .val (.int p2), .val (.int p3), .val (.int p4), .val (.int mk), .val (.int a), .val (.int b), .val (.int lo), .val (.int hi), .val (.int tw), .val (.ref b16), .val (.int nn), .val (.ref ar), .unset, .unset] [(.long (0 : Int64)), (.ref b20), (.ref b20)]))
        refine own_via (fun t k => XS.aload X20.here hx rfl (hb hby at_118) rfl rfl k) ?_
        show OwnEnds p.tables e below _ (T20.setTop (mkF m 120 #[.val (.int p0), .val (.int p1), .val (.int p2), .val (.int p3), .val (.int p4), .val (.int mk), .val (.int a), .val (.int b), .val (.int lo), .val (.int hi), .val (.int tw), .val (.ref b16), .val (.int nn), .val (.ref ar), .unset, .unset] [(.ref b16), (.long (0 : Int64)), (.ref b20), (.ref b20)]))
        obtain ⟨_, _, ⟨T21, L21, k21, n21⟩, -, X21, ⟨Lc21, hQ21, l21, y21, z21⟩, st21⟩ := X20.specialBack hx (y := (⟨"com/example/crowd_cache/crowdcache/core/Bucket", "<init>", "(J[I)V"⟩ : MethodName)) rfl hown (mvT hZ (hw _ (List.mem_of_getElem? (i := 18) rfl))) (mvT hZ (hw _ (List.mem_of_getElem? (i := 19) rfl))) (mvT hZ (hw _ (List.mem_of_getElem? (i := 20) rfl))) (by decide) (backOf (W := 1) (rm4 l Z aw hw [] b20 (0 : Int64) b16 h20 n0 Zs_20 E_b20 F_index_b20 F_positions_b20 g_b20) hZ (hw _ (List.mem_of_getElem? (i := 20) rfl)) (hw _ (List.mem_of_getElem? (i := 17) rfl)) (by decide) (by decide)) (g := (mkF m 120 #[.val (.int p0), .val (.int p1), .val (.int p2), .val (.int p3), .val (.int p4), .val (.int mk), .val (.int a), .val (.int b), .val (.int lo), .val (.int hi), .val (.int tw), .val (.ref b16), .val (.int nn), .val (.ref ar), .unset, .unset] [(.ref b16), (.long (0 : Int64)), (.ref b20), (.ref b20)])) rfl (by rw [hml]; rfl) (Steps.refl _) (a := b20) (argsL := [(.long (0 : Int64)), (.ref b16)]) (rest := [(.ref b20)]) (lenOf pd_2 rfl) rfl (by show 2 * 0 + _ ≤ _; exact Nat.le_of_eq rfl) (hb hby at_120) (fun _ _ => ⟨rfl, e20, (by decide : 3 + 0 ≤ _), (by decide : 8 + 0 ≤ _)⟩)
        dsimp only [Pt.U, Pt.locs, Pt.cells, Pt.slots] at X21 l21 y21 z21 st21 hQ21
        subst l21 y21 z21
        obtain ⟨h21, e21⟩ : ∃ z, T21.heap = z := ⟨_, rfl⟩
        rw [e21] at hQ21
        obtain ⟨rfl, Nq21, K21, Y21_0, Y21_1, Y21_2⟩ := hQ21
        have N21 := Fr.app N19 Nq21
        replace A_b16 := A_b16.keep K21 (ninS ne_b16_b20 nin0)
        replace A_ar := A_ar.keep K21 (ninS ne_ar_b20 nin0)
        replace E_b20 := E_b20.keep K21
        have F_index_b20 : Fld Z h21 b20 "com/example/crowd_cache/crowdcache/core/Bucket" "index" "J" (.long (0 : Int64)) := Y21_1
        have F_positions_b20 : Fld Z h21 b20 "com/example/crowd_cache/crowdcache/core/Bucket" "positions" "[I" (.ref b16) := Y21_2
        have Zs_21 : n0 ≤ _ := Nat.le_trans Zs_20 K21.1
        refine own_of st21 ?_
        show OwnEnds p.tables e below _ (T21.setTop (mkF m 123 #[.val (.int p0), .val (.int p1), .val (.int p2), .val (.int p3), .val (.int p4), .val (.int mk), .val (.int a), .val (.int b), .val (.int lo), .val (.int hi), .val (.int tw), .val (.ref b16), .val (.int nn), .val (.ref ar), .unset, .unset] [(.ref b20)]))
        refine own_via (fun t k => XS.astore X21.here hx rfl (hb hby at_123) rfl rfl (l' := #[.val (.int p0), .val (.int p1), .val (.int p2), .val (.int p3), .val (.int p4), .val (.int mk), .val (.int a), .val (.int b), .val (.int lo), .val (.int hi), .val (.int tw), .val (.ref b16), .val (.int nn), .val (.ref ar), .val (.ref b20), .unset]) rfl k) ?_
        show OwnEnds p.tables e below _ (T21.setTop (mkF m 125 #[.val (.int p0), .val (.int p1), .val (.int p2), .val (.int p3), .val (.int p4), .val (.int mk), .val (.int a), .val (.int b), .val (.int lo), .val (.int hi), .val (.int tw), .val (.ref b16), .val (.int nn), .val (.ref ar), .val (.ref b20), .unset] []))
        refine own_via (fun t k => XS.aload X21.here hx rfl (hb hby at_125) rfl rfl k) ?_
        show OwnEnds p.tables e below _ (T21.setTop (mkF m 127 #[.val (.int p0), .val (.int p1), .val (.int p2), .val (.int p3), .val (.int p4), .val (.int mk), .val (.int a), .val (.int b), .val (.int lo), .val (.int hi), .val (.int tw), .val (.ref b16), .val (.int nn), .val (.ref ar), .val (.ref b20), .unset] [(.ref b20)]))
        refine own_via (fun t k => XS.aload X21.here hx rfl (hb hby at_127) rfl rfl k) ?_
        show OwnEnds p.tables e below _ (T21.setTop (mkF m 129 #[.val (.int p0), .val (.int p1), .val (.int p2), .val (.int p3), .val (.int p4), .val (.int mk), .val (.int a), .val (.int b), .val (.int lo), .val (.int hi), .val (.int tw), .val (.ref b16), .val (.int nn), .val (.ref ar), .val (.ref b20), .unset] [(.ref ar), (.ref b20)]))
        obtain ⟨cq22, kq22, q22a, q22b, q22c⟩ := isOf hZ e21 E_b20
        obtain ⟨_, _, ⟨T22, L22, k22, n22⟩, -, X22, ⟨Lc22, hQ22, l22, y22, z22⟩, st22⟩ := X21.virtualBack hx (y := (⟨"com/example/crowd_cache/crowdcache/core/Bucket", "foundIn", "([B)[Z"⟩ : MethodName)) (z := (⟨"com/example/crowd_cache/crowdcache/core/Bucket", "foundIn", "([B)[Z"⟩ : MethodName)) hown (mvT hZ (hw _ (List.mem_of_getElem? (i := 28) rfl))) (mvT hZ (hw _ (List.mem_of_getElem? (i := 29) rfl))) (notFace_of_selects (args := #[]) (mvT hZ (hw _ (List.mem_of_getElem? (i := 31) rfl)))) (mvT hZ (hw _ (List.mem_of_getElem? (i := 31) rfl))) (mvT hZ (hw _ (List.mem_of_getElem? (i := 30) rfl))) (by decide) (backOf (W := 0) (rm62 l Z aw hw [] b20 ar b16 p4 n nn lo hi h21 n0 Zs_21 E_b20 F_positions_b20 A_b16 A_ar hn hlo hhi) hZ (hw _ (List.mem_of_getElem? (i := 32) rfl)) (hw _ (List.mem_of_getElem? (i := 17) rfl)) (by decide) (by decide)) q22a q22c (g := (mkF m 129 #[.val (.int p0), .val (.int p1), .val (.int p2), .val (.int p3), .val (.int p4), .val (.int mk), .val (.int a), .val (.int b), .val (.int lo), .val (.int hi), .val (.int tw), .val (.ref b16), .val (.int nn), .val (.ref ar), .val (.ref b20), .unset] [(.ref ar), (.ref b20)])) rfl (by rw [hml]; rfl) (Steps.refl _) (argsL := [(.ref ar)]) (rest := []) (lenOf pd_3 rfl) rfl (by show 2 * 0 + _ ≤ _; exact Nat.le_of_eq rfl) (hb hby at_129) (fun _ _ => ⟨rfl, e21, (by decide : 3 + 1 ≤ _), (by decide : 8 + 2 ≤ _)⟩)
        dsimp only [Pt.U, Pt.locs, Pt.cells, Pt.slots] at X22 l22 y22 z22 st22 hQ22
        subst l22 y22 z22
        obtain ⟨h22, e22⟩ : ∃ z, T22.heap = z := ⟨_, rfl⟩
        rw [e22] at hQ22
        obtain ⟨fb, rfl, Nq22, K22, sz_fb', Y22_0⟩ := hQ22
        have N22 := Fr.app N21 Nq22
        have ne_ar_fb : ar ≠ fb := Nat.ne_of_lt (Nat.lt_of_lt_of_le A_ar.lt sz_fb')
        have ne_b16_fb : b16 ≠ fb := Nat.ne_of_lt (Nat.lt_of_lt_of_le A_b16.lt sz_fb')
        have ne_b20_fb : b20 ≠ fb := Nat.ne_of_lt (Nat.lt_of_lt_of_le E_b20.lt sz_fb')
        have g_fb : n0 ≤ fb := Nat.le_trans Zs_21 sz_fb'
        replace A_b16 := A_b16.keep K22 nin0
        replace A_ar := A_ar.keep K22 nin0
        replace E_b20 := E_b20.keep K22
        replace F_index_b20 := F_index_b20.keep K22 nin0
        replace F_positions_b20 := F_positions_b20.keep K22 nin0
        have A_fb : AL Z h22 fb .boolean [(.int (nar .boolean (own_f lo nn p4))), (.int (nar .boolean (own_f hi nn p4)))] := Y22_0
        have Zs_22 : n0 ≤ _ := Nat.le_trans Zs_21 K22.1
        refine own_of st22 ?_
        show OwnEnds p.tables e below _ (T22.setTop (mkF m 132 #[.val (.int p0), .val (.int p1), .val (.int p2), .val (.int p3), .val (.int p4), .val (.int mk), .val (.int a), .val (.int b), .val (.int lo), .val (.int hi), .val (.int tw), .val (.ref b16), .val (.int nn), .val (.ref ar), .val (.ref b20), .unset] [(.ref fb)]))
        refine own_via (fun t k => XS.astore X22.here hx rfl (hb hby at_132) rfl rfl (l' := #[.val (.int p0), .val (.int p1), .val (.int p2), .val (.int p3), .val (.int p4), .val (.int mk), .val (.int a), .val (.int b), .val (.int lo), .val (.int hi), .val (.int tw), .val (.ref b16), .val (.int nn), .val (.ref ar), .val (.ref b20), .val (.ref fb)]) rfl k) ?_
        show OwnEnds p.tables e below _ (T22.setTop (mkF m 134 #[.val (.int p0), .val (.int p1), .val (.int p2), .val (.int p3), .val (.int p4), .val (.int mk), .val (.int a), .val (.int b), .val (.int lo), .val (.int hi), .val (.int tw), .val (.ref b16), .val (.int nn), .val (.ref ar), .val (.ref b20), .val (.ref fb)] []))
        refine own_via (fun t k => XS.iload X22.here hx rfl (hb hby at_134) rfl k) ?_
        show OwnEnds p.tables e below _ (T22.setTop (mkF m 136 #[.val (.int p0), .val (.int p1), .val (.int p2), .val (.int p3), .val (.int p4), .val (.int mk), .val (.int a), .val (.int b), .val (.int lo), .val (.int hi), .val (.int tw), .val (.ref b16), .val (.int nn), .val (.ref ar), .val (.ref b20), .val (.ref fb)] [(.int tw)]))
        have hc136_23 : ¬ (tw = (0 : Int32)) := hc67_5
        refine own_via (fun t k => XS.ifNo X22.here hx rfl (hb hby at_136) rfl ((if0 _ _).trans (feq hc136_23).1) k) ?_
        show OwnEnds p.tables e below _ (T22.setTop (mkF m 139 #[.val (.int p0), .val (.int p1), .val (.int p2), .val (.int p3), .val (.int p4), .val (.int mk), .val (.int a), .val (.int b), .val (.int lo), .val (.int hi), .val (.int tw), .val (.ref b16), .val (.int nn), .val (.ref ar), .val (.ref b20), .val (.ref fb)] []))
        refine own_via (fun t k => XS.aload X22.here hx rfl (hb hby at_139) rfl rfl k) ?_
        show OwnEnds p.tables e below _ (T22.setTop (mkF m 141 #[.val (.int p0), .val (.int p1), .val (.int p2), .val (.int p3), .val (.int p4), .val (.int mk), .val (.int a), .val (.int b), .val (.int lo), .val (.int hi), .val (.int tw), .val (.ref b16), .val (.int nn), .val (.ref ar), .val (.ref b20), .val (.ref fb)] [(.ref fb)]))
        refine own_via (own_len X22 hx hZ e22 A_fb (z := (2 : Int32)) rfl (g := (mkF m 141 #[.val (.int p0), .val (.int p1), .val (.int p2), .val (.int p3), .val (.int p4), .val (.int mk), .val (.int a), .val (.int b), .val (.int lo), .val (.int hi), .val (.int tw), .val (.ref b16), .val (.int nn), .val (.ref ar), .val (.ref b20), .val (.ref fb)] [(.ref fb)])) rfl rfl (hb hby at_141)) ?_
        show OwnEnds p.tables e below _ (T22.setTop (mkF m 142 #[.val (.int p0), .val (.int p1), .val (.int p2), .val (.int p3), .val (.int p4), .val (.int mk), .val (.int a), .val (.int b), .val (.int lo), .val (.int hi), .val (.int tw), .val (.ref b16), .val (.int nn), .val (.ref ar), .val (.ref b20), .val (.ref fb)] [(.int (2 : Int32))]))
        refine own_via (fun t k => XS.iconst X22.here hx rfl (hb hby at_142) k) ?_
        show OwnEnds p.tables e below _ (T22.setTop (mkF m 143 #[.val (.int p0), .val (.int p1), .val (.int p2), .val (.int p3), .val (.int p4), .val (.int mk), .val (.int a), .val (.int b), .val (.int lo), .val (.int hi), .val (.int tw), .val (.ref b16), .val (.int nn), .val (.ref ar), .val (.ref b20), .val (.ref fb)] [(.int (2 : Int32)), (.int (2 : Int32))]))
        have hc143_24 : (2 : Int32) = (2 : Int32) := by decide
        refine own_via (fun t k => XS.icmpNo X22.here hx rfl (hb hby at_143) rfl (teq hc143_24).2 k) ?_
        show OwnEnds p.tables e below _ (T22.setTop (mkF m 146 #[.val (.int p0), .val (.int p1), .val (.int p2), .val (.int p3), .val (.int p4), .val (.int mk), .val (.int a), .val (.int b), .val (.int lo), .val (.int hi), .val (.int tw), .val (.ref b16), .val (.int nn), .val (.ref ar), .val (.ref b20), .val (.ref fb)] []))
        refine own_via (fun t k => XS.aload X22.here hx rfl (hb hby at_146) rfl rfl k) ?_
        show OwnEnds p.tables e below _ (T22.setTop (mkF m 148 #[.val (.int p0), .val (.int p1), .val (.int p2), .val (.int p3), .val (.int p4), .val (.int mk), .val (.int a), .val (.int b), .val (.int lo), .val (.int hi), .val (.int tw), .val (.ref b16), .val (.int nn), .val (.ref ar), .val (.ref b20), .val (.ref fb)] [(.ref fb)]))
        refine own_via (fun t k => XS.iconst X22.here hx rfl (hb hby at_148) k) ?_
        show OwnEnds p.tables e below _ (T22.setTop (mkF m 149 #[.val (.int p0), .val (.int p1), .val (.int p2), .val (.int p3), .val (.int p4), .val (.int mk), .val (.int a), .val (.int b), .val (.int lo), .val (.int hi), .val (.int tw), .val (.ref b16), .val (.int nn), .val (.ref ar), .val (.ref b20), .val (.ref fb)] [(.int (0 : Int32)), (.ref fb)]))
        refine own_via (own_ldZ X22 hx hZ e22 A_fb (v := (.int (nar .boolean (own_f lo nn p4)))) 0 rfl rfl (g := (mkF m 149 #[.val (.int p0), .val (.int p1), .val (.int p2), .val (.int p3), .val (.int p4), .val (.int mk), .val (.int a), .val (.int b), .val (.int lo), .val (.int hi), .val (.int tw), .val (.ref b16), .val (.int nn), .val (.ref ar), .val (.ref b20), .val (.ref fb)] [(.int (0 : Int32)), (.ref fb)])) rfl rfl (hb hby at_149)) ?_
        show OwnEnds p.tables e below _ (T22.setTop (mkF m 150 #[.val (.int p0), .val (.int p1), .val (.int p2), .val (.int p3), .val (.int p4), .val (.int mk), .val (.int a), .val (.int b), .val (.int lo), .val (.int hi), .val (.int tw), .val (.ref b16), .val (.int nn), .val (.ref ar), .val (.ref b20), .val (.ref fb)] [(.int (nar .boolean (own_f lo nn p4)))]))
        refine own_via (fun t k => XS.iload X22.here hx rfl (hb hby at_150) rfl k) ?_
        show OwnEnds p.tables e below _ (T22.setTop (mkF m 152 #[.val (.int p0), .val (.int p1), .val (.int p2), .val (.int p3), .val (.int p4), .val (.int mk), .val (.int a), .val (.int b), .val (.int lo), .val (.int hi), .val (.int tw), .val (.ref b16), .val (.int nn), .val (.ref ar), .val (.ref b20), .val (.ref fb)] [(.int lo), (.int (nar .boolean (own_f lo nn p4)))]))
        refine own_via (fun t k => XS.iload X22.here hx rfl (hb hby at_152) rfl k) ?_
        show OwnEnds p.tables e below _ (T22.setTop (mkF m 154 #[.val (.int p0), .val (.int p1), .val (.int p2), .val (.int p3), .val (.int p4), .val (.int mk), .val (.int a), .val (.int b), .val (.int lo), .val (.int hi), .val (.int tw), .val (.ref b16), .val (.int nn), .val (.ref ar), .val (.ref b20), .val (.ref fb)] [(.int nn), (.int lo), (.int (nar .boolean (own_f lo nn p4)))]))
        refine own_via (fun t k => XS.iload X22.here hx rfl (hb hby at_154) rfl k) ?_
        show OwnEnds p.tables e below _ (T22.setTop (mkF m 156 #[.val (.int p0), .val (.int p1), .val (.int p2), .val (.int p3), .val (.int p4), .val (.int mk), .val (.int a), .val (.int b), .val (.int lo), .val (.int hi), .val (.int tw), .val (.ref b16), .val (.int nn), .val (.ref ar), .val (.ref b20), .val (.ref fb)] [(.int p4), (.int nn), (.int lo), (.int (nar .boolean (own_f lo nn p4)))]))
        obtain ⟨_, _, ⟨T25, L25, k25, n25⟩, -, X25, ⟨Lc25, hQ25, l25, y25, z25⟩, st25⟩ := Jvm.LawKit.callS X22 hx (y := (⟨"com/example/crowd_cache/crowdcache/core/BucketFoundInPinLaw", "ref", "(III)Z"⟩ : MethodName)) hown (mvT hZ (hw _ (List.mem_of_getElem? (i := 34) rfl))) (mvT hZ (hw _ (List.mem_of_getElem? (i := 35) rfl))) (mvT hZ (hw _ (List.mem_of_getElem? (i := 12) rfl))) (mvT hZ (hw _ (List.mem_of_getElem? (i := 36) rfl))) (by decide) (backOf (W := 1) (rm7 l Z aw hw [] lo nn p4 h22 n0 Zs_22 ) hZ (hw _ (List.mem_of_getElem? (i := 36) rfl)) (hw _ (List.mem_of_getElem? (i := 12) rfl)) (by decide) (by decide)) (g := (mkF m 156 #[.val (.int p0), .val (.int p1), .val (.int p2), .val (.int p3), .val (.int p4), .val (.int mk), .val (.int a), .val (.int b), .val (.int lo), .val (.int hi), .val (.int tw), .val (.ref b16), .val (.int nn), .val (.ref ar), .val (.ref b20), .val (.ref fb)] [(.int p4), (.int nn), (.int lo), (.int (nar .boolean (own_f lo nn p4)))])) rfl (by rw [hml]; rfl) (argsL := [(.int lo), (.int nn), (.int p4)]) (rest := [(.int (nar .boolean (own_f lo nn p4)))]) (lenOf pd_4 rfl) rfl (by show 2 * 0 + _ ≤ _; exact Nat.le_of_eq rfl) (hb hby at_156) (fun _ _ => ⟨rfl, e22, (by decide : 4 + 0 ≤ _), (by decide : 10 + 0 ≤ _)⟩)
        dsimp only [Pt.U, Pt.locs, Pt.cells, Pt.slots] at X25 l25 y25 z25 st25 hQ25
        subst l25 y25 z25
        obtain ⟨rfl, Nq25, e25⟩ := hQ25
        have N25 := Fr.app N22 Nq25
        replace e25 : T25.heap = h22 := e25
        refine own_via st25 ?_
        show OwnEnds p.tables e below _ (T25.setTop (mkF m 159 #[.val (.int p0), .val (.int p1), .val (.int p2), .val (.int p3), .val (.int p4), .val (.int mk), .val (.int a), .val (.int b), .val (.int lo), .val (.int hi), .val (.int tw), .val (.ref b16), .val (.int nn), .val (.ref ar), .val (.ref b20), .val (.ref fb)] [(.int (own_ref lo nn p4)), (.int (nar .boolean (own_f lo nn p4)))]))
        have hc159_26 : (nar .boolean (own_f lo nn p4)) = (own_ref lo nn p4) := own_eq hlo hnn4
        refine own_via (fun t k => XS.icmpNo X25.here hx rfl (hb hby at_159) rfl (teq hc159_26).2 k) ?_
        show OwnEnds p.tables e below _ (T25.setTop (mkF m 162 #[.val (.int p0), .val (.int p1), .val (.int p2), .val (.int p3), .val (.int p4), .val (.int mk), .val (.int a), .val (.int b), .val (.int lo), .val (.int hi), .val (.int tw), .val (.ref b16), .val (.int nn), .val (.ref ar), .val (.ref b20), .val (.ref fb)] []))
        refine own_via (fun t k => XS.aload X25.here hx rfl (hb hby at_162) rfl rfl k) ?_
        show OwnEnds p.tables e below _ (T25.setTop (mkF m 164 #[.val (.int p0), .val (.int p1), .val (.int p2), .val (.int p3), .val (.int p4), .val (.int mk), .val (.int a), .val (.int b), .val (.int lo), .val (.int hi), .val (.int tw), .val (.ref b16), .val (.int nn), .val (.ref ar), .val (.ref b20), .val (.ref fb)] [(.ref fb)]))
        refine own_via (fun t k => XS.iconst X25.here hx rfl (hb hby at_164) k) ?_
        show OwnEnds p.tables e below _ (T25.setTop (mkF m 165 #[.val (.int p0), .val (.int p1), .val (.int p2), .val (.int p3), .val (.int p4), .val (.int mk), .val (.int a), .val (.int b), .val (.int lo), .val (.int hi), .val (.int tw), .val (.ref b16), .val (.int nn), .val (.ref ar), .val (.ref b20), .val (.ref fb)] [(.int (1 : Int32)), (.ref fb)]))
        refine own_via (own_ldZ X25 hx hZ e25 A_fb (v := (.int (nar .boolean (own_f hi nn p4)))) 1 rfl rfl (g := (mkF m 165 #[.val (.int p0), .val (.int p1), .val (.int p2), .val (.int p3), .val (.int p4), .val (.int mk), .val (.int a), .val (.int b), .val (.int lo), .val (.int hi), .val (.int tw), .val (.ref b16), .val (.int nn), .val (.ref ar), .val (.ref b20), .val (.ref fb)] [(.int (1 : Int32)), (.ref fb)])) rfl rfl (hb hby at_165)) ?_
        show OwnEnds p.tables e below _ (T25.setTop (mkF m 166 #[.val (.int p0), .val (.int p1), .val (.int p2), .val (.int p3), .val (.int p4), .val (.int mk), .val (.int a), .val (.int b), .val (.int lo), .val (.int hi), .val (.int tw), .val (.ref b16), .val (.int nn), .val (.ref ar), .val (.ref b20), .val (.ref fb)] [(.int (nar .boolean (own_f hi nn p4)))]))
        refine own_via (fun t k => XS.iload X25.here hx rfl (hb hby at_166) rfl k) ?_
        show OwnEnds p.tables e below _ (T25.setTop (mkF m 168 #[.val (.int p0), .val (.int p1), .val (.int p2), .val (.int p3), .val (.int p4), .val (.int mk), .val (.int a), .val (.int b), .val (.int lo), .val (.int hi), .val (.int tw), .val (.ref b16), .val (.int nn), .val (.ref ar), .val (.ref b20), .val (.ref fb)] [(.int hi), (.int (nar .boolean (own_f hi nn p4)))]))
        refine own_via (fun t k => XS.iload X25.here hx rfl (hb hby at_168) rfl k) ?_
        show OwnEnds p.tables e below _ (T25.setTop (mkF m 170 #[.val (.int p0), .val (.int p1), .val (.int p2), .val (.int p3), .val (.int p4), .val (.int mk), .val (.int a), .val (.int b), .val (.int lo), .val (.int hi), .val (.int tw), .val (.ref b16), .val (.int nn), .val (.ref ar), .val (.ref b20), .val (.ref fb)] [(.int nn), (.int hi), (.int (nar .boolean (own_f hi nn p4)))]))
        refine own_via (fun t k => XS.iload X25.here hx rfl (hb hby at_170) rfl k) ?_
        show OwnEnds p.tables e below _ (T25.setTop (mkF m 172 #[.val (.int p0), .val (.int p1), .val (.int p2), .val (.int p3), .val (.int p4), .val (.int mk), .val (.int a), .val (.int b), .val (.int lo), .val (.int hi), .val (.int tw), .val (.ref b16), .val (.int nn), .val (.ref ar), .val (.ref b20), .val (.ref fb)] [(.int p4), (.int nn), (.int hi), (.int (nar .boolean (own_f hi nn p4)))]))
        obtain ⟨_, _, ⟨T27, L27, k27, n27⟩, -, X27, ⟨Lc27, hQ27, l27, y27, z27⟩, st27⟩ := Jvm.LawKit.callS X25 hx (y := (⟨"com/example/crowd_cache/crowdcache/core/BucketFoundInPinLaw", "ref", "(III)Z"⟩ : MethodName)) hown (mvT hZ (hw _ (List.mem_of_getElem? (i := 34) rfl))) (mvT hZ (hw _ (List.mem_of_getElem? (i := 35) rfl))) (mvT hZ (hw _ (List.mem_of_getElem? (i := 12) rfl))) (mvT hZ (hw _ (List.mem_of_getElem? (i := 36) rfl))) (by decide) (backOf (W := 1) (rm7 l Z aw hw [] hi nn p4 h22 n0 Zs_22 ) hZ (hw _ (List.mem_of_getElem? (i := 36) rfl)) (hw _ (List.mem_of_getElem? (i := 12) rfl)) (by decide) (by decide)) (g := (mkF m 172 #[.val (.int p0), .val (.int p1), .val (.int p2), .val (.int p3), .val (.int p4), .val (.int mk), .val (.int a), .val (.int b), .val (.int lo), .val (.int hi), .val (.int tw), .val (.ref b16), .val (.int nn), .val (.ref ar), .val (.ref b20), .val (.ref fb)] [(.int p4), (.int nn), (.int hi), (.int (nar .boolean (own_f hi nn p4)))])) rfl (by rw [hml]; rfl) (argsL := [(.int hi), (.int nn), (.int p4)]) (rest := [(.int (nar .boolean (own_f hi nn p4)))]) (lenOf pd_4 rfl) rfl (by show 2 * 0 + _ ≤ _; exact Nat.le_of_eq rfl) (hb hby at_172) (fun _ _ => ⟨rfl, e25, (by decide : 4 + 0 ≤ _), (by decide : 10 + 0 ≤ _)⟩)
        dsimp only [Pt.U, Pt.locs, Pt.cells, Pt.slots] at X27 l27 y27 z27 st27 hQ27
        subst l27 y27 z27
        obtain ⟨rfl, Nq27, e27⟩ := hQ27
        have N27 := Fr.app N25 Nq27
        replace e27 : T27.heap = h22 := e27
        refine own_via st27 ?_
        show OwnEnds p.tables e below _ (T27.setTop (mkF m 175 #[.val (.int p0), .val (.int p1), .val (.int p2), .val (.int p3), .val (.int p4), .val (.int mk), .val (.int a), .val (.int b), .val (.int lo), .val (.int hi), .val (.int tw), .val (.ref b16), .val (.int nn), .val (.ref ar), .val (.ref b20), .val (.ref fb)] [(.int (own_ref hi nn p4)), (.int (nar .boolean (own_f hi nn p4)))]))
        have hc175_28 : (nar .boolean (own_f hi nn p4)) = (own_ref hi nn p4) := own_eq hhi hnn4
        refine own_via (fun t k => XS.icmpNo X27.here hx rfl (hb hby at_175) rfl (teq hc175_28).2 k) ?_
        show OwnEnds p.tables e below _ (T27.setTop (mkF m 178 #[.val (.int p0), .val (.int p1), .val (.int p2), .val (.int p3), .val (.int p4), .val (.int mk), .val (.int a), .val (.int b), .val (.int lo), .val (.int hi), .val (.int tw), .val (.ref b16), .val (.int nn), .val (.ref ar), .val (.ref b20), .val (.ref fb)] []))
        refine own_via (fun t k => XS.iconst X27.here hx rfl (hb hby at_178) k) ?_
        show OwnEnds p.tables e below _ (T27.setTop (mkF m 179 #[.val (.int p0), .val (.int p1), .val (.int p2), .val (.int p3), .val (.int p4), .val (.int mk), .val (.int a), .val (.int b), .val (.int lo), .val (.int hi), .val (.int tw), .val (.ref b16), .val (.int nn), .val (.ref ar), .val (.ref b20), .val (.ref fb)] [(.int (1 : Int32))]))
        refine own_via (fun t k => XS.goto X27.here hx rfl (pc0 := 179) (pc' := 183) rfl (hb hby at_179) (by decide) (by decide) k) ?_
        show OwnEnds p.tables e below _ (T27.setTop (mkF m 183 #[.val (.int p0), .val (.int p1), .val (.int p2), .val (.int p3), .val (.int p4), .val (.int mk), .val (.int a), .val (.int b), .val (.int lo), .val (.int hi), .val (.int tw), .val (.ref b16), .val (.int nn), .val (.ref ar), .val (.ref b20), .val (.ref fb)] [(.int (1 : Int32))]))
        refine own_retN (t := .boolean) X27 hx Bd.returns (by simp) hlk (hb hby at_183) ?_ (by decide) (by decide)
        rw [e27]
        exact ⟨rfl, N27⟩
    by_cases hc48_29 : (p2 &&& (2 : Int32)) = (0 : Int32)
    · skip
      refine own_via (fun t k => XS.ifYes X3.here hx rfl (pc0 := 48) (pc' := 62) rfl (hb hby at_48) rfl ((if0 _ _).trans (teq hc48_29).1) (by decide) (by decide) k) ?_
      show OwnEnds p.tables e below _ (T3.setTop (mkF m 62 #[.val (.int p0), .val (.int p1), .val (.int p2), .val (.int p3), .val (.int p4), .val (.int mk), .val (.int a), .val (.int b), .val (.int lo), .val (.int hi), .unset, .unset, .unset, .unset, .unset, .unset] []))
      refine own_via (fun t k => XS.iconst X3.here hx rfl (hb hby at_62) k) ?_
      show OwnEnds p.tables e below _ (T3.setTop (mkF m 63 #[.val (.int p0), .val (.int p1), .val (.int p2), .val (.int p3), .val (.int p4), .val (.int mk), .val (.int a), .val (.int b), .val (.int lo), .val (.int hi), .unset, .unset, .unset, .unset, .unset, .unset] [(.int (0 : Int32))]))
      exact J63_4 _ (by simp only [if_pos hc48_29])
    · skip
      refine own_via (fun t k => XS.ifNo X3.here hx rfl (hb hby at_48) rfl ((if0 _ _).trans (feq hc48_29).1) k) ?_
      show OwnEnds p.tables e below _ (T3.setTop (mkF m 51 #[.val (.int p0), .val (.int p1), .val (.int p2), .val (.int p3), .val (.int p4), .val (.int mk), .val (.int a), .val (.int b), .val (.int lo), .val (.int hi), .unset, .unset, .unset, .unset, .unset, .unset] []))
      refine own_via (fun t k => XS.iload X3.here hx rfl (hb hby at_51) rfl k) ?_
      show OwnEnds p.tables e below _ (T3.setTop (mkF m 53 #[.val (.int p0), .val (.int p1), .val (.int p2), .val (.int p3), .val (.int p4), .val (.int mk), .val (.int a), .val (.int b), .val (.int lo), .val (.int hi), .unset, .unset, .unset, .unset, .unset, .unset] [(.int lo)]))
      refine own_via (fun t k => XS.iload X3.here hx rfl (hb hby at_53) rfl k) ?_
      show OwnEnds p.tables e below _ (T3.setTop (mkF m 55 #[.val (.int p0), .val (.int p1), .val (.int p2), .val (.int p3), .val (.int p4), .val (.int mk), .val (.int a), .val (.int b), .val (.int lo), .val (.int hi), .unset, .unset, .unset, .unset, .unset, .unset] [(.int hi), (.int lo)]))
      by_cases hc55_30 : lo < hi
      · skip
        refine own_via (fun t k => XS.icmpNo X3.here hx rfl (hb hby at_55) rfl (tlt hc55_30).2.1 k) ?_
        show OwnEnds p.tables e below _ (T3.setTop (mkF m 58 #[.val (.int p0), .val (.int p1), .val (.int p2), .val (.int p3), .val (.int p4), .val (.int mk), .val (.int a), .val (.int b), .val (.int lo), .val (.int hi), .unset, .unset, .unset, .unset, .unset, .unset] []))
        refine own_via (fun t k => XS.iconst X3.here hx rfl (hb hby at_58) k) ?_
        show OwnEnds p.tables e below _ (T3.setTop (mkF m 59 #[.val (.int p0), .val (.int p1), .val (.int p2), .val (.int p3), .val (.int p4), .val (.int mk), .val (.int a), .val (.int b), .val (.int lo), .val (.int hi), .unset, .unset, .unset, .unset, .unset, .unset] [(.int (1 : Int32))]))
        refine own_via (fun t k => XS.goto X3.here hx rfl (pc0 := 59) (pc' := 63) rfl (hb hby at_59) (by decide) (by decide) k) ?_
        show OwnEnds p.tables e below _ (T3.setTop (mkF m 63 #[.val (.int p0), .val (.int p1), .val (.int p2), .val (.int p3), .val (.int p4), .val (.int mk), .val (.int a), .val (.int b), .val (.int lo), .val (.int hi), .unset, .unset, .unset, .unset, .unset, .unset] [(.int (1 : Int32))]))
        exact J63_4 _ (by simp only [if_neg hc48_29, if_pos hc55_30])
      · skip
        refine own_via (fun t k => XS.icmpYes X3.here hx rfl (pc0 := 55) (pc' := 62) rfl (hb hby at_55) rfl (flt hc55_30).2.1 (by decide) (by decide) k) ?_
        show OwnEnds p.tables e below _ (T3.setTop (mkF m 62 #[.val (.int p0), .val (.int p1), .val (.int p2), .val (.int p3), .val (.int p4), .val (.int mk), .val (.int a), .val (.int b), .val (.int lo), .val (.int hi), .unset, .unset, .unset, .unset, .unset, .unset] []))
        refine own_via (fun t k => XS.iconst X3.here hx rfl (hb hby at_62) k) ?_
        show OwnEnds p.tables e below _ (T3.setTop (mkF m 63 #[.val (.int p0), .val (.int p1), .val (.int p2), .val (.int p3), .val (.int p4), .val (.int mk), .val (.int a), .val (.int b), .val (.int lo), .val (.int hi), .unset, .unset, .unset, .unset, .unset, .unset] [(.int (0 : Int32))]))
        exact J63_4 _ (by simp only [if_neg hc48_29, if_neg hc55_30])
  by_cases hc3_31 : (p2 &&& (1 : Int32)) = (0 : Int32)
  · skip
    refine own_via (fun t k => XS.ifYes X0.here hx rfl (pc0 := 3) (pc' := 11) rfl (hb hby at_3) rfl ((if0 _ _).trans (teq hc3_31).1) (by decide) (by decide) k) ?_
    show OwnEnds p.tables e below _ (s₁.setTop (mkF m 11 #[.val (.int p0), .val (.int p1), .val (.int p2), .val (.int p3), .val (.int p4), .unset, .unset, .unset, .unset, .unset, .unset, .unset, .unset, .unset, .unset, .unset] []))
    refine own_via (X0.ldcInt hx hown (mvT hZ (hw _ (List.mem_of_getElem? (i := 0) rfl))) (g := (mkF m 11 #[.val (.int p0), .val (.int p1), .val (.int p2), .val (.int p3), .val (.int p4), .unset, .unset, .unset, .unset, .unset, .unset, .unset, .unset, .unset, .unset, .unset] [])) rfl (hb hby at_11)) ?_
    show OwnEnds p.tables e below _ (s₁.setTop (mkF m 13 #[.val (.int p0), .val (.int p1), .val (.int p2), .val (.int p3), .val (.int p4), .unset, .unset, .unset, .unset, .unset, .unset, .unset, .unset, .unset, .unset, .unset] [(.int (65535 : Int32))]))
    exact J13_1 _ (by simp only [if_pos hc3_31])
  · skip
    refine own_via (fun t k => XS.ifNo X0.here hx rfl (hb hby at_3) rfl ((if0 _ _).trans (feq hc3_31).1) k) ?_
    show OwnEnds p.tables e below _ (s₁.setTop (mkF m 6 #[.val (.int p0), .val (.int p1), .val (.int p2), .val (.int p3), .val (.int p4), .unset, .unset, .unset, .unset, .unset, .unset, .unset, .unset, .unset, .unset, .unset] []))
    refine own_via (fun t k => XS.bipush X0.here hx rfl (hb hby at_6) k) ?_
    show OwnEnds p.tables e below _ (s₁.setTop (mkF m 8 #[.val (.int p0), .val (.int p1), .val (.int p2), .val (.int p3), .val (.int p4), .unset, .unset, .unset, .unset, .unset, .unset, .unset, .unset, .unset, .unset, .unset] [(.int (63 : Int32))]))
    refine own_via (fun t k => XS.goto X0.here hx rfl (pc0 := 8) (pc' := 13) rfl (hb hby at_8) (by decide) (by decide) k) ?_
    show OwnEnds p.tables e below _ (s₁.setTop (mkF m 13 #[.val (.int p0), .val (.int p1), .val (.int p2), .val (.int p3), .val (.int p4), .unset, .unset, .unset, .unset, .unset, .unset, .unset, .unset, .unset, .unset, .unset] [(.int (63 : Int32))]))
    exact J13_1 _ (by simp only [if_neg hc3_31])
set_option maxRecDepth 65536 in
set_option maxHeartbeats 40000000 in
theorem comes_1 {Post : Tables → Env → Array Value → State → Outcome → State → Prop} (hpost : ∀ tb e args s v u, (limb_1_1.after args s (.returned v) u = true ∧ limb_1_2.after args s (.returned v) u = true ∧ True) → FrameEnd s (.returned v) u (Jvm.fieldLocs frame_1_writes args s ++ Jvm.arrayLocs frame_1_arrays args s ++ Jvm.staticLocs frame_1_statics s) 16 128 → Post tb e args s (.returned v) u) :
    ArmFor flags0 classFile x code maxLocals ret World_1 tables_1 room_1 Calls_1 rest_1 Pre_1 Post := by
  intro l hfl _ _ p e ha hc hk s m args below hf hA hF happ hP
  obtain ⟨hcalls, hrest, hpre⟩ := hP
  obtain ⟨-, -, -, hnamed, -, -, -, hat⟩ := (Spec.applies_iff hf).mp happ
  obtain ⟨hg, hn⟩ := and_e (Cond.before_iff.mp (show (Jvm.Cond.and given_1 narrow_1).before args s = true from hpre))
  obtain ⟨hq0, hg0⟩ := and_e hg
  obtain ⟨hq1, hg1⟩ := and_e hg0
  obtain ⟨hq2, hg2⟩ := and_e hg1
  obtain ⟨hq3, hg3⟩ := and_e hg2
  obtain ⟨hq4, hg4⟩ := and_e hg3
  obtain ⟨w0, w1, w2, w3, w4, rfl⟩ : ∃ w0 w1 w2 w3 w4 : Value, args = #[w0, w1, w2, w3, w4] := by
    have hs : args.size = 5 := by simpa [Cond.value, given_1] using hq0
    obtain ⟨L⟩ := args
    match L, hs with
    | [w0, w1, w2, w3, w4], _ => exact ⟨w0, w1, w2, w3, w4, rfl⟩
  have hw := fun d (hd : d ∈ tables_1) => atoms_spec (ws := Jvm.Cond.code x code maxLocals ret :: tables_1) hat d (List.mem_cons_of_mem _ hd)
  have hfit : Fit s := fun {y c} hc i hi => by
    obtain ⟨ha, rfl⟩ := Array.getElem?_eq_some_iff.mp hc
    have q := List.all_eq_true.mp ((Array.all_eq_true_iff_forall_mem.mp hF) _ (Array.getElem_mem ha)) i (List.mem_range.mpr hi)
    simpa [Array.getElem?_eq_getElem hi] using q
  obtain ⟨i0, ei0⟩ := is_v hq1
  obtain rfl : w0 = (.int i0) := Option.some.inj ei0
  obtain ⟨i1, ei1⟩ := is_v hq2
  obtain rfl : w1 = (.int i1) := Option.some.inj ei1
  obtain ⟨i2, ei2⟩ := is_v hq3
  obtain rfl : w2 = (.int i2) := Option.some.inj ei2
  obtain ⟨i3, ei3⟩ := is_v hq4
  obtain rfl : w3 = (.int i3) := Option.some.inj ei3
  obtain ⟨i4, ei4⟩ := is_v hg4
  obtain rfl : w4 = (.int i4) := Option.some.inj ei4
  obtain ⟨n, o, h1, h2, h3, _, L, rfl, ⟨rfl, N⟩, hq⟩ := rm0 l s _ hw tables_1 i0 i1 i2 i3 i4 s.heap s.heap.size (Nat.le_refl _)  p e ha hc hk s m _ below hf ((Spec.applies_iff_loose hf).mp happ).1 ⟨rfl, State.Warmed39.refl s, rfl⟩ trivial
  refine ⟨n, _, h1, h2, h3, hpost _ _ _ _ _ _ ⟨Cond.after_iff.mpr rfl, Cond.after_iff.mpr (eq_i res_at (Term.int_eval (1)) rfl), trivial⟩ ⟨hq.1, hq.2.1, (hq.2.2.sift fun y hy => Or.inr (N y hy)).mono (by decide) (by decide)⟩⟩
theorem main_1_1 : Claimed_1_1 := comes_1 fun _ _ _ _ _ _ h hF => ⟨h.1, hF⟩
theorem main_1_2 : Claimed_1_2 := comes_1 fun _ _ _ _ _ _ h hF => ⟨h.2.1, hF⟩
end Jvm.Pilot.@@N@@
namespace Jvm.Pilot.@@N@@
open Jvm Jvm.ClassFile Sem Op Lib Jvm.Free Jvm.Stand Jvm.Pilot.@@N@@.Jvm.D
/-! MADE BY PROGRAM (witnessworld.py) out of the Statement's table words and the real class files: 12 classes; the members and pool entries that the words name. The judged class is class 1, her method 1. -/
namespace start1
open Jvm.ClassFile
def u (s : String) : CpInfo := .utf8 (stringToUtf16 s)
/-- a pool by its gaps: so many unusable entries, then the entry; so many at the end -/
def gap : Nat → List CpInfo → List CpInfo
  | 0, r => r
  | n + 1, r => .unusable :: gap n r
def poolList (es : List (Nat × CpInfo)) (last : Nat) : List CpInfo := es.foldr (fun e r => gap e.1 (e.2 :: r)) (gap last [])
def pool (es : List (Nat × CpInfo)) (last : Nat) : Array CpInfo := ⟨poolList es last⟩
def fileOf (pool : Array CpInfo) (this : Nat) (attrs : Array Attribute := #[]) (ms : Array MethodInfo := #[]) (fl : Nat := 33) (sup : Nat := 0) (ifs : Array Nat := #[]) (fds : Array FieldInfo := #[]) : ClassFile where
  minorVersion := 0
  majorVersion := 65
  constantPool := pool
  accessFlags := fl
  thisClass := this
  superClass := sup
  interfaces := ifs
  fields := fds
  methods := ms
  attributes := attrs
def plain (name : String) (sup : Option ClassId) : Class where
  name := name
  kind := .ordinary
  loader := none
  accessFlags := 33
  super := sup
  interfaces := #[]
  cf := none
  fields := #[]
  methods := #[]
  instanceTypes := #[]
  staticTypes := #[]
  resolved := #[]
  callSites := []
  init := .initialized
  statics := none
  mirror := none

def pool0 : Array CpInfo := pool [(5, u "<init>"), (0, u "()V"), (1, .class_ 10), (1, u "java/lang/Object")] 113

def k0c0 : Code := { maxStack := 0, maxLocals := 1, code := object_method_1_code, exceptionTable := #[], attributes := #[] }
def k0m0 : Method := { name := "<init>", desc := "()V", sig := { parameters := [], returnType := none }, accessFlags := 1, code := some k0c0 }
/-- java/lang/Object -/
def k0 : Class := { plain "java/lang/Object" none with
  accessFlags := 33
  interfaces := #[]
  cf := some (fileOf pool0 8 #[] #[{ accessFlags := 1, nameIndex := 5, descriptorIndex := 6, attributes := #[] }] 33 0 #[] #[])
  fields := #[]
  methods := #[k0m0]
  instanceTypes := #[]
  staticTypes := #[]
  resolved := Array.replicate 124 none
  statics := none }

def pool1 : Array CpInfo := pool [(2, .class_ 4), (1, u "java/lang/Object"), (0, u "<init>"), (0, u "()V"), (0, .integer 65535), (0, .methodref 9 10), (0, .class_ 11), (0, .nameAndType 12 13), (0, u "java/lang/Math"), (0, u "min"), (0, u "(II)I"), (0, .methodref 9 15), (0, .nameAndType 16 13), (0, u "max"), (0, .integer 2147483647), (0, .methodref 19 20), (0, .class_ 21), (0, .nameAndType 22 23), (0, u "com/example/crowd_cache/crowdcache/core/BucketFoundInPinLaw"), (0, u "make"), (0, u "(II)[B"), (0, .class_ 25), (0, u "com/example/crowd_cache/crowdcache/core/Bucket"), (0, .methodref 24 27), (0, .nameAndType 5 28), (0, u "(J[I)V"), (0, .methodref 24 30), (0, .nameAndType 31 32), (0, u "foundIn"), (0, u "([B)[Z"), (0, .methodref 19 34), (0, .nameAndType 35 36), (0, u "ref"), (0, u "(III)Z"), (2, u "law"), (0, u "(IIIII)Z")] 9

def k1m0 : Method := { name := "<init>", desc := "()V", sig := { parameters := [], returnType := none }, accessFlags := 1, code := none }
def k1c1 : Code := { maxStack := 5, maxLocals := 16, code := code, exceptionTable := #[], attributes := #[] }
def k1m1 : Method := { name := "law", desc := "(IIIII)Z", sig := { parameters := [.int, .int, .int, .int, .int], returnType := some .boolean }, accessFlags := 9, code := some k1c1 }
def k1c2 : Code := { maxStack := 4, maxLocals := 4, code := method_3_code, exceptionTable := #[], attributes := #[] }
def k1m2 : Method := { name := "ref", desc := "(III)Z", sig := { parameters := [.int, .int, .int], returnType := some .boolean }, accessFlags := 10, code := some k1c2 }
def k1c3 : Code := { maxStack := 4, maxLocals := 6, code := method_4_code, exceptionTable := #[], attributes := #[] }
def k1m3 : Method := { name := "make", desc := "(II)[B", sig := { parameters := [.int, .int], returnType := some (.array .byte) }, accessFlags := 10, code := some k1c3 }
/-- com/example/crowd_cache/crowdcache/core/BucketFoundInPinLaw -/
def k1 : Class := { plain "com/example/crowd_cache/crowdcache/core/BucketFoundInPinLaw" (some 0) with
  accessFlags := 49
  interfaces := #[]
  cf := some (fileOf pool1 19 #[] #[{ accessFlags := 1, nameIndex := 5, descriptorIndex := 6, attributes := #[] }, { accessFlags := 9, nameIndex := 39, descriptorIndex := 40, attributes := #[] }, { accessFlags := 10, nameIndex := 35, descriptorIndex := 36, attributes := #[] }, { accessFlags := 10, nameIndex := 22, descriptorIndex := 23, attributes := #[] }] 49 2 #[] #[])
  fields := #[]
  methods := #[k1m0, k1m1, k1m2, k1m3]
  instanceTypes := #[]
  staticTypes := #[]
  resolved := Array.replicate 50 none
  statics := none }

def pool2 : Array CpInfo := pool [(1, .class_ 2), (0, u "java/lang/Math"), (1, .class_ 6), (1, u "java/lang/Object"), (0, u "<init>"), (0, u "()V"), (89, .class_ 100), (1, u "java/lang/Math$RandomNumberGeneratorHolder"), (71, u "negativeZeroFloatBits"), (0, u "J"), (2, u "negativeZeroDoubleBits"), (21, u "max"), (2, u "min"), (43, u "$assertionsDisabled"), (0, u "Z"), (88, u "(II)I"), (2, u "twoToTheDoubleScaleDown"), (0, u "D"), (4, u "twoToTheDoubleScaleUp"), (9, u "E"), (3, u "PI"), (2, u "TAU"), (2, u "DEGREES_TO_RADIANS"), (0, u "RADIANS_TO_DEGREES")] 94

def k2m0 : Method := { name := "<init>", desc := "()V", sig := { parameters := [], returnType := none }, accessFlags := 2, code := none }
def k2c1 : Code := { maxStack := 2, maxLocals := 2, code := jdk_29_method_65_code, exceptionTable := #[], attributes := #[] }
def k2m1 : Method := { name := "max", desc := "(II)I", sig := { parameters := [.int, .int], returnType := some .int }, accessFlags := 9, code := some k2c1 }
def k2c2 : Code := { maxStack := 2, maxLocals := 2, code := jdk_29_method_69_code, exceptionTable := #[], attributes := #[] }
def k2m2 : Method := { name := "min", desc := "(II)I", sig := { parameters := [.int, .int], returnType := some .int }, accessFlags := 9, code := some k2c2 }
/-- java/lang/Math -/
def k2 : Class := { plain "java/lang/Math" (some 0) with
  accessFlags := 49
  interfaces := #[]
  cf := some (fileOf pool2 1 #[.nestMembers #[98]] #[{ accessFlags := 2, nameIndex := 7, descriptorIndex := 8, attributes := #[] }, { accessFlags := 9, nameIndex := 198, descriptorIndex := 335, attributes := #[] }, { accessFlags := 9, nameIndex := 201, descriptorIndex := 335, attributes := #[] }] 49 4 #[] #[{ accessFlags := 25, nameIndex := 354, descriptorIndex := 339, attributes := #[] }, { accessFlags := 25, nameIndex := 358, descriptorIndex := 339, attributes := #[] }, { accessFlags := 25, nameIndex := 361, descriptorIndex := 339, attributes := #[] }, { accessFlags := 26, nameIndex := 364, descriptorIndex := 339, attributes := #[] }, { accessFlags := 26, nameIndex := 365, descriptorIndex := 339, attributes := #[] }, { accessFlags := 26, nameIndex := 172, descriptorIndex := 173, attributes := #[] }, { accessFlags := 26, nameIndex := 176, descriptorIndex := 173, attributes := #[] }, { accessFlags := 8, nameIndex := 344, descriptorIndex := 339, attributes := #[] }, { accessFlags := 8, nameIndex := 338, descriptorIndex := 339, attributes := #[] }, { accessFlags := 4120, nameIndex := 245, descriptorIndex := 246, attributes := #[] }])
  fields := #[{ name := "E", type := .double, accessFlags := 25, slot := 0, constantValue := 0 }, { name := "PI", type := .double, accessFlags := 25, slot := 1, constantValue := 0 }, { name := "TAU", type := .double, accessFlags := 25, slot := 2, constantValue := 0 }, { name := "DEGREES_TO_RADIANS", type := .double, accessFlags := 26, slot := 3, constantValue := 0 }, { name := "RADIANS_TO_DEGREES", type := .double, accessFlags := 26, slot := 4, constantValue := 0 }, { name := "negativeZeroFloatBits", type := .long, accessFlags := 26, slot := 5, constantValue := 0 }, { name := "negativeZeroDoubleBits", type := .long, accessFlags := 26, slot := 6, constantValue := 0 }, { name := "twoToTheDoubleScaleUp", type := .double, accessFlags := 8, slot := 7, constantValue := 0 }, { name := "twoToTheDoubleScaleDown", type := .double, accessFlags := 8, slot := 8, constantValue := 0 }, { name := "$assertionsDisabled", type := .boolean, accessFlags := 4120, slot := 9, constantValue := 0 }]
  methods := #[k2m0, k2m1, k2m2]
  instanceTypes := #[]
  staticTypes := #[.double, .double, .double, .double, .double, .long, .long, .double, .double, .boolean]
  resolved := Array.replicate 460 none
  statics := none }

def pool3 : Array CpInfo := pool [(1, .methodref 2 3), (0, .class_ 4), (0, .nameAndType 5 6), (0, u "java/lang/Object"), (0, u "<init>"), (0, u "()V"), (0, .fieldref 8 9), (0, .class_ 10), (0, .nameAndType 11 12), (0, u "com/example/crowd_cache/crowdcache/core/Bucket"), (0, u "index"), (0, u "J"), (0, .fieldref 8 14), (0, .nameAndType 15 16), (0, u "positions"), (0, u "[I"), (3, u "WIDTH"), (0, u "I"), (2, u "POSITION_BITS"), (1, u "(J[I)V"), (9, u "foundIn"), (0, u "([B)[Z")] 10

def k3c0 : Code := { maxStack := 3, maxLocals := 4, code := prog_1_method_1_code, exceptionTable := #[], attributes := #[] }
def k3m0 : Method := { name := "<init>", desc := "(J[I)V", sig := { parameters := [.long, (.array .int)], returnType := none }, accessFlags := 0, code := some k3c0 }
def k3c1 : Code := { maxStack := 6, maxLocals := 5, code := prog_1_method_6_code, exceptionTable := #[], attributes := #[] }
def k3m1 : Method := { name := "foundIn", desc := "([B)[Z", sig := { parameters := [(.array .byte)], returnType := some (.array .boolean) }, accessFlags := 1, code := some k3c1 }
/-- com/example/crowd_cache/crowdcache/core/Bucket -/
def k3 : Class := { plain "com/example/crowd_cache/crowdcache/core/Bucket" (some 0) with
  accessFlags := 49
  interfaces := #[]
  cf := some (fileOf pool3 8 #[] #[{ accessFlags := 0, nameIndex := 5, descriptorIndex := 26, attributes := #[] }, { accessFlags := 1, nameIndex := 36, descriptorIndex := 37, attributes := #[] }] 49 2 #[] #[{ accessFlags := 25, nameIndex := 20, descriptorIndex := 21, attributes := #[] }, { accessFlags := 26, nameIndex := 24, descriptorIndex := 21, attributes := #[] }, { accessFlags := 18, nameIndex := 11, descriptorIndex := 12, attributes := #[] }, { accessFlags := 18, nameIndex := 15, descriptorIndex := 16, attributes := #[] }])
  fields := #[{ name := "WIDTH", type := .int, accessFlags := 25, slot := 0, constantValue := 0 }, { name := "POSITION_BITS", type := .int, accessFlags := 26, slot := 1, constantValue := 0 }, { name := "index", type := .long, accessFlags := 18, slot := 0, constantValue := 0 }, { name := "positions", type := (.array .int), accessFlags := 18, slot := 1, constantValue := 0 }]
  methods := #[k3m0, k3m1]
  instanceTypes := #[.long, (.array .int)]
  staticTypes := #[.int, .int]
  resolved := Array.replicate 48 none
  statics := none }

def pool4 : Array CpInfo := pool [(1, u "java/lang/Cloneable"), (0, .class_ 1), (0, u "java/lang/Object"), (0, .class_ 3)] 3

/-- java/lang/Cloneable -/
def k4 : Class := { plain "java/lang/Cloneable" (some 0) with
  accessFlags := 1537
  interfaces := #[]
  cf := some (fileOf pool4 2 #[] #[] 1537 4 #[] #[])
  fields := #[]
  methods := #[]
  instanceTypes := #[]
  staticTypes := #[]
  resolved := Array.replicate 8 none
  statics := none }

def pool5 : Array CpInfo := pool [(1, u "java/io/Serializable"), (0, .class_ 1), (0, u "java/lang/Object"), (0, .class_ 3)] 3

/-- java/io/Serializable -/
def k5 : Class := { plain "java/io/Serializable" (some 0) with
  accessFlags := 1537
  interfaces := #[]
  cf := some (fileOf pool5 2 #[] #[] 1537 4 #[] #[])
  fields := #[]
  methods := #[]
  instanceTypes := #[]
  staticTypes := #[]
  resolved := Array.replicate 8 none
  statics := none }

/-- the primitive boolean -/
def k6 : Class := { plain "boolean" none with kind := .primitive 'Z', accessFlags := 0x411 }
/-- [Z -/
def k7 : Class := { plain "[Z" (some 0) with kind := .array 6 .boolean, interfaces := #[4, 5], accessFlags := 1041 }

/-- the primitive byte -/
def k8 : Class := { plain "byte" none with kind := .primitive 'B', accessFlags := 0x411 }
/-- [B -/
def k9 : Class := { plain "[B" (some 0) with kind := .array 8 .byte, interfaces := #[4, 5], accessFlags := 1041 }

/-- the primitive int -/
def k10 : Class := { plain "int" none with kind := .primitive 'I', accessFlags := 0x411 }
/-- [I -/
def k11 : Class := { plain "[I" (some 0) with kind := .array 10 .int, interfaces := #[4, 5], accessFlags := 1041 }

def heap : Heap := #[]
def classes : Array Class := #[k0, k1, k2, k3, k4, k5, k6, k7, k8, k9, k10, k11]
def interned : List (Array UInt16 × Addr) := []
def slotsUsed : Nat := 0
def theMethod : MethodId := ⟨1, 1⟩
def args0 : Array Value := #[.int 3, .int 300, .int 1, .int 7, .int 99]
def aboutOver (below : List Frame) : State where
  vm := { classes := classes, interned := interned.toArray }
  heap := heap
  slotsUsed := slotsUsed
  threads := #[{ frames := .invoking theMethod args0 :: below }]
def below0 : List Frame := [.native { method := ⟨0, 0⟩, args := #[] }]
def about1 : State := aboutOver below0
def p0 : Program := .bare "" "" ""
def e0 : Env := launch0.env 0 0 0
theorem w_frames : about1.frames = Frame.invoking theMethod args0 :: below0 := rfl
set_option maxRecDepth 65536 in
theorem w_args : argsFit about1.vm theMethod args0 = true := by decide +kernel
set_option maxRecDepth 65536 in
theorem w_heap : heapFits about1 = true := by decide +kernel
set_option maxRecDepth 65536 in
theorem w_runnable : about1.curStatus? = some .runnable := by decide +kernel
set_option maxRecDepth 65536 in
theorem w_alone : about1.alone = true := by decide +kernel
set_option maxRecDepth 65536 in
theorem w_named : about1.methodNamed? x = some theMethod := by decide +kernel
set_option maxRecDepth 65536 in
theorem w_hears : about1.hears theMethod below0 = true := by decide +kernel
set_option maxRecDepth 65536 in
theorem w_ripe : about1.ripe theMethod args0 below0 = true := by decide +kernel
theorem w_running : about1.status = .running := rfl
set_option maxRecDepth 65536 in
theorem w_room : about1.hasRoom e0.platform room_1 = true :=
  launch0.hasRoom_least _ room_1 (by decide +kernel) (by decide +kernel) (by decide +kernel) (by decide +kernel) (by decide +kernel) (by decide +kernel)
theorem allAtoms_all (ts : List Jvm.Cond) (a : Array Jvm.Value) (st : Jvm.State) : (allAtoms ts).before a st = ts.all (fun c => c.before a st) := by
  induction ts with
  | nil => rfl
  | cons c t ih =>
    show (Jvm.Cond.and c (allAtoms t)).before a st = _
    rw [Jvm.Cond.before_and, ih, List.all_cons]
def words1 : List Jvm.Cond := Jvm.Cond.code x code maxLocals ret :: tables_1
/-- a 'code' word, met by the world's own term for the bytes: nothing is compared byte by byte -/
theorem code_word {y : MethodName} {bytes : ByteArray} {mx : Nat} {rt : Option FieldType} {a : Array Value} {s : State} {m : MethodId} {meth : Method} {c : Code} (h1 : s.methodNamed? y = some m) (h2 : s.vm.method? m = some meth) (h3 : meth.code = some c) (h4 : c.code = bytes)
    (h5 : (c.maxLocals == mx && c.exceptionTable.isEmpty && decide (c.maxStack ≤ mostOperands) && decide (meth.sig.returnType = rt) && !meth.locks && decide (parseMethodDescriptor y.desc = some meth.sig)) = true) : (Jvm.Cond.code y bytes mx rt).before a s = true := by
  simp only [Bool.and_eq_true, beq_iff_eq, Bool.not_eq_true', decide_eq_true_eq] at h5
  obtain ⟨⟨⟨⟨⟨g1, g2⟩, g3⟩, g4⟩, g5⟩, g6⟩ := h5
  simp [Cond.before, Cond.holds, Cond.value, h1, h2, h3, h4, g1, g2, g3, g4, g5, g6]
def isCode : Jvm.Cond → Bool
  | .code _ _ _ _ => true
  | _ => false
theorem all_split {L : List Jvm.Cond} {P : Jvm.Cond → Bool} (h1 : L.all (fun c => isCode c || P c) = true) (h2 : ∀ c ∈ L.filter isCode, P c = true) : L.all P = true := by
  refine List.all_eq_true.mpr fun c hc => ?_
  have h := List.all_eq_true.mp h1 c hc
  rcases Bool.eq_false_or_eq_true (isCode c) with hi | hi
  · exact h2 c (List.mem_filter.mpr ⟨hc, hi⟩)
  · simpa [hi] using h
set_option maxRecDepth 65536 in
theorem w_c0 : (Jvm.Cond.code x code maxLocals ret).before args0 about1 = true := code_word (m := ⟨1, 1⟩) (meth := k1m1) (c := k1c1) (by decide +kernel) rfl rfl rfl (by decide +kernel)
set_option maxRecDepth 65536 in
theorem w_c1 : (Jvm.Cond.code ({ cls := "java/lang/Math", name := "min", desc := "(II)I" } : Jvm.MethodName) jdk_29_method_69_code (2 : Nat) (Option.some Jvm.ClassFile.FieldType.int)).before args0 about1 = true := code_word (m := ⟨2, 2⟩) (meth := k2m2) (c := k2c2) (by decide +kernel) rfl rfl rfl (by decide +kernel)
set_option maxRecDepth 65536 in
theorem w_c2 : (Jvm.Cond.code ({ cls := "java/lang/Math", name := "max", desc := "(II)I" } : Jvm.MethodName) jdk_29_method_65_code (2 : Nat) (Option.some Jvm.ClassFile.FieldType.int)).before args0 about1 = true := code_word (m := ⟨2, 1⟩) (meth := k2m1) (c := k2c1) (by decide +kernel) rfl rfl rfl (by decide +kernel)
set_option maxRecDepth 65536 in
theorem w_c3 : (Jvm.Cond.code ({ cls := "com/example/crowd_cache/crowdcache/core/BucketFoundInPinLaw", name := "make", desc := "(II)[B" } : Jvm.MethodName) method_4_code (6 : Nat) (Option.some (Jvm.ClassFile.FieldType.array Jvm.ClassFile.FieldType.byte))).before args0 about1 = true := code_word (m := ⟨1, 3⟩) (meth := k1m3) (c := k1c3) (by decide +kernel) rfl rfl rfl (by decide +kernel)
set_option maxRecDepth 65536 in
theorem w_c4 : (Jvm.Cond.code ({ cls := "com/example/crowd_cache/crowdcache/core/Bucket", name := "<init>", desc := "(J[I)V" } : Jvm.MethodName) prog_1_method_1_code (4 : Nat) (Option.none : Option Jvm.ClassFile.FieldType)).before args0 about1 = true := code_word (m := ⟨3, 0⟩) (meth := k3m0) (c := k3c0) (by decide +kernel) rfl rfl rfl (by decide +kernel)
set_option maxRecDepth 65536 in
theorem w_c5 : (Jvm.Cond.code ({ cls := "java/lang/Object", name := "<init>", desc := "()V" } : Jvm.MethodName) object_method_1_code (1 : Nat) (Option.none : Option Jvm.ClassFile.FieldType)).before args0 about1 = true := code_word (m := ⟨0, 0⟩) (meth := k0m0) (c := k0c0) (by decide +kernel) rfl rfl rfl (by decide +kernel)
set_option maxRecDepth 65536 in
theorem w_c6 : (Jvm.Cond.code ({ cls := "com/example/crowd_cache/crowdcache/core/Bucket", name := "foundIn", desc := "([B)[Z" } : Jvm.MethodName) prog_1_method_6_code (5 : Nat) (Option.some (Jvm.ClassFile.FieldType.array Jvm.ClassFile.FieldType.boolean))).before args0 about1 = true := code_word (m := ⟨3, 1⟩) (meth := k3m1) (c := k3c1) (by decide +kernel) rfl rfl rfl (by decide +kernel)
set_option maxRecDepth 65536 in
theorem w_c7 : (Jvm.Cond.code ({ cls := "com/example/crowd_cache/crowdcache/core/BucketFoundInPinLaw", name := "ref", desc := "(III)Z" } : Jvm.MethodName) method_3_code (4 : Nat) (Option.some Jvm.ClassFile.FieldType.boolean)).before args0 about1 = true := code_word (m := ⟨1, 2⟩) (meth := k1m2) (c := k1c2) (by decide +kernel) rfl rfl rfl (by decide +kernel)
def codes1 : List Jvm.Cond := [Jvm.Cond.code x code maxLocals ret, Jvm.Cond.code ({ cls := "java/lang/Math", name := "min", desc := "(II)I" } : Jvm.MethodName) jdk_29_method_69_code (2 : Nat) (Option.some Jvm.ClassFile.FieldType.int), Jvm.Cond.code ({ cls := "java/lang/Math", name := "max", desc := "(II)I" } : Jvm.MethodName) jdk_29_method_65_code (2 : Nat) (Option.some Jvm.ClassFile.FieldType.int), Jvm.Cond.code ({ cls := "com/example/crowd_cache/crowdcache/core/BucketFoundInPinLaw", name := "make", desc := "(II)[B" } : Jvm.MethodName) method_4_code (6 : Nat) (Option.some (Jvm.ClassFile.FieldType.array Jvm.ClassFile.FieldType.byte)), Jvm.Cond.code ({ cls := "com/example/crowd_cache/crowdcache/core/Bucket", name := "<init>", desc := "(J[I)V" } : Jvm.MethodName) prog_1_method_1_code (4 : Nat) (Option.none : Option Jvm.ClassFile.FieldType), Jvm.Cond.code ({ cls := "java/lang/Object", name := "<init>", desc := "()V" } : Jvm.MethodName) object_method_1_code (1 : Nat) (Option.none : Option Jvm.ClassFile.FieldType), Jvm.Cond.code ({ cls := "com/example/crowd_cache/crowdcache/core/Bucket", name := "foundIn", desc := "([B)[Z" } : Jvm.MethodName) prog_1_method_6_code (5 : Nat) (Option.some (Jvm.ClassFile.FieldType.array Jvm.ClassFile.FieldType.boolean)), Jvm.Cond.code ({ cls := "com/example/crowd_cache/crowdcache/core/BucketFoundInPinLaw", name := "ref", desc := "(III)Z" } : Jvm.MethodName) method_3_code (4 : Nat) (Option.some Jvm.ClassFile.FieldType.boolean)]
set_option maxRecDepth 65536 in
theorem codes_eq : words1.filter isCode = codes1 := rfl
theorem w_codes : ∀ c ∈ words1.filter isCode, c.before args0 about1 = true := by
  rw [codes_eq]
  intro c hc
  simp only [codes1, List.mem_cons, List.not_mem_nil, or_false] at hc
  rcases hc with rfl | rfl | rfl | rfl | rfl | rfl | rfl | rfl
  · exact w_c0
  · exact w_c1
  · exact w_c2
  · exact w_c3
  · exact w_c4
  · exact w_c5
  · exact w_c6
  · exact w_c7
set_option maxRecDepth 65536 in
theorem w_t1 : (words1.take 24).all (fun c => isCode c || c.before args0 about1) = true := by decide +kernel
set_option maxRecDepth 65536 in
theorem w_t2 : (words1.drop 24).all (fun c => isCode c || c.before args0 about1) = true := by decide +kernel
theorem w_tables : (allAtoms (Jvm.Cond.code x code maxLocals ret :: tables_1)).before args0 about1 = true := by
  rw [allAtoms_all]
  show words1.all (fun c => c.before args0 about1) = true
  refine all_split ?_ w_codes
  rw [← List.take_append_drop 24 words1, List.all_append, w_t1, w_t2]
  rfl
set_option maxRecDepth 65536 in
theorem w_case : (Jvm.Cond.and given_1 narrow_1).before args0 about1 = true := by decide +kernel
theorem w_applies : (headSpec (Jvm.Cond.code x code maxLocals ret :: tables_1) room_1).applies x e0.platform about1 = true :=
  (Spec.applies_iff w_frames).mpr ⟨w_running, w_runnable, w_alone, w_named, w_hears, w_ripe, w_room, w_tables⟩
theorem atStart : AtStart classFile x code maxLocals ret World_1 tables_1 room_1 Calls_1 rest_1 Pre_1 launch0 p0 e0 about1 theMethod args0 below0 :=
  ⟨lists_1, trivial, launch0.admits_env _ _ _, launch0.least_env, fairChoices_fair.cas, fairChoices_fair.clock, w_frames, w_args, w_heap, w_applies, trivial, trivial, w_case⟩
end start1
theorem witness_1 : WitnessClaimed_1 := ⟨start1.p0, start1.e0, start1.about1, start1.theMethod, start1.args0, start1.below0, start1.atStart⟩
end Jvm.Pilot.@@N@@
